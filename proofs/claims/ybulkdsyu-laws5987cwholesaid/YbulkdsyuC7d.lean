import Derived.Test.YbulkdsyuC7c
namespace Go.Proofs.Ybulkdsyu
open Go Go.RowKit Go.Maps Go.WideMaps Go.WideElems

theorem cell_lt {w : World} {a : Addr} {v : Value} (h : w.cell? a = some v) : a.block < w.heap.size := by
  unfold World.cell? at h
  cases e : w.heap[a.block]? with
  | none => simp [e] at h
  | some o => exact (Array.getElem?_eq_some_iff.1 e).1

theorem encZ_ints {w : World} {B : Nat} {rv : Option Addr} {n rc : Nat} {l : List Int} (h : w.ownsRow B 3 1 (.slice rv n rc) n (l.map encZ)) (hl : l.length = n) : IntsAt w w.heap.size rv n (fun i => l.getD i 0) := by
  refine ownsRow_ints (B := B) (cv := rc) ?_
  have e : (List.range n).map (fun i => Value.int .i64 (l.getD i 0)) = l.map encZ := by
    apply List.ext_getElem
    · simp [hl]
    · intro i h1 h2
      simp at h1
      simp [encZ, List.getElem?_eq_getElem (show i < l.length by omega)]
  rw [e]
  exact h

theorem rowIs_ints {w : World} {g n : Nat} {f : Nat → Int} (h : w.rowIs g 3 n (fun i => .int .i64 (f i))) : IntsAt w w.heap.size (some ⟨g, 0, none⟩) n f := fun i hi =>
  ⟨g, 0, rfl, h.lt, by rw [Nat.zero_add]; exact h.cell hi⟩

/-- All that the law looks at behind the call of heard. -/
structure Fin5 (w Wl Wh : World) (sz kk np nk nl G Gc Bc bm : Nat) (ql : Nat → Nat) (qf : Nat → Nat → Int) (pv : Option Addr) (cv : Nat) (rv : Option Addr) (rc : Nat) (xs : List Int) (ks ks1 : List (Int × Int)) (ps ps1 : List Nat) (vk vp : Value) (B : Nat) : Prop where
  below : Below w.heap.size w Wh
  m : Wh.cell? ⟨Bc + 1, 67, none⟩ = some (.pointer (some ⟨Bc, 0, none⟩))
  c6 : Wh.cell? ⟨Bc, 6, none⟩ = some (.slice (some ⟨G, 0, none⟩) sz sz)
  c8 : Wh.cell? ⟨Bc, 8, none⟩ = some (.map (some bm))
  r : Wh.cell? ⟨G, kk, none⟩ = some (.slice rv nl rc)
  srow : Wh.ownsRow Wl.heap.size 3 1 (.slice rv nl rc) nl ((xs.mergeSort (fun x y => decide (x ≤ y))).map encZ)
  nil : Value.slice rv nl rc = .slice none 0 0 ↔ xs = []
  oth : ∀ i, i < sz → i ≠ kk → ∃ p c, Wh.cell? ⟨G, i, none⟩ = some (.slice p (lenAt np ql i) c) ∧ IntsAt Wh Wh.heap.size p (lenAt np ql i) (qf i)
  lc : Wh.ownsRow B 3 1 (.slice pv nl cv) nl ((List.range nl).map fun i => .int .i64 (xs.getD i 0))
  lclt : ∀ g, (Value.slice pv nl cv).ownBlock = some g → g < Wl.heap.size
  st : KSt B ks ps vk vp Wh
  map : ∃ D n, Wh.ownsMap Yba.prog 72 ptrElem bm n D ∧ DictL ks ps D
  row : Wh.rowIs Gc 73 nk (fun i => ptr (ps1.getD i 0))
  cp : ∀ i, i < nk → Wh.heap[ps1.getD i 0]? = some (.cells (copyCells (ks1.getD i (0, 0))) 77 (0, 0))
  wf : ∀ k ∈ ks, KWf k

theorem fin_of {w W1 wr Wp Wl Wh : World} {sz np nk kk M : Nat} {ql : Nat → Nat} {qf : Nat → Nat → Int} {hv : Nat → Value} {mo : Option Nat} {Gc nl : Nat} {xs : List Int} {ks0 ks1 : List (Int × Int)} {ps0 ps1 : List Nat} {vk vp : Value} {pv : Option Addr} {cv : Nat} {rv : Option Addr} {rc bm : Nat}
    (hB : Below w.heap.size w W1) (hH : Heard w.heap.size w.heap.size sz np ql qf M hv W1) (h4 : Ph4 W1 ks0 ps0 mo Gc nk ks1 ps1 vk vp wr) (h5 : Ph5 wr w.heap.size sz mo Wp) (hb : Below Wp.heap.size Wp Wl)
    (hrow : Wl.ownsRow Wp.heap.size 3 1 (.slice pv nl cv) nl ((List.range nl).map fun i => .int .i64 (xs.getD i 0))) (hM2 : M ≤ np) (hM3 : M = sz ∨ M = np) (hk : kk < sz)
    (hp : Post ⟨wr.heap.size + 1, wr.heap.size, w.heap.size, sz, kk, nk, Gc, hv, fun i => (chCells w.heap.size sz mo).getD i undef, pv, nl, cv, xs, ks0, ps0, ks1, ps1, mo⟩ Wl rv rc bm Wh) :
    Fin5 w Wl Wh sz kk np nk nl w.heap.size Gc wr.heap.size bm ql qf pv cv rv rc xs (ks0 ++ ks1) ks1 (ps0 ++ ps1) ps1 vk vp W1.heap.size := by
  have hs5 := h5.size
  have hbl : Below wr.heap.size wr Wl := h5.below.trans (hb.mono (by omega))
  have hG : w.heap.size < W1.heap.size := hH.row.lt
  have hmol : ∀ b, mo = some b → W1.heap.size ≤ b := fun b e => by
    rcases h4.map with ⟨h1, _⟩ | ⟨bm', D, e1, hlo, _⟩
    · rw [h1] at e; cases e
    · rw [e1] at e; cases e; exact hlo
  have hmom : ∀ b, mo = some b → ∃ es cl, Wl.heap[b]? = some (Obj.map es cl) := fun b e => by
    rcases h4.map with ⟨h1, _⟩ | ⟨bm', D, e1, hlo, hm, _⟩
    · rw [h1] at e; cases e
    · rw [e1] at e; cases e
      have hlt := hm.lt
      obtain ⟨es, cl, e2, _⟩ := hm
      exact ⟨es, cl, (hbl.block _ hlt).trans e2⟩
  have hW1 := h4.below.size
  have hWl := hbl.size
  -- cells that are neither the heard row nor the change
  have fr : ∀ (b : Nat) (cs : Array Value) (t : TypeId) (f : Nat × Nat), Wl.heap[b]? = some (Obj.cells cs t f) → b ≠ w.heap.size → b ≠ wr.heap.size → Wh.heap[b]? = Wl.heap[b]? := fun b cs t f e h1 h2 =>
    hp.frame b (Array.getElem?_eq_some_iff.1 e).1 h1 h2 (fun e1 => by obtain ⟨es, cl, e2⟩ := hmom b e1; rw [e] at e2; cases e2)
  have hchl : Wl.rowIs wr.heap.size 89 21 (fun i => (chCells w.heap.size sz mo).getD i undef) := h5.ch.of_block (hb.block _ (by omega))
  have hrl : Wl.rowIs w.heap.size 55 sz hv := hH.row.of_block ((hbl.block _ (by omega)).trans (h4.below.block _ hG))
  have frt : ∀ (b : Nat) (cs : Array Value) (t : TypeId), Wl.heap[b]? = some (Obj.cells cs t (0, 0)) → t ≠ 55 → t ≠ 89 → Wh.heap[b]? = Wl.heap[b]? := fun b cs t e n1 n2 =>
    fr b cs t _ e (fun e1 => by subst e1; exact rowIs_ne_cells hrl e (Ne.symm n1) rfl) (fun e1 => by subst e1; exact rowIs_ne_cells hchl e (Ne.symm n2) rfl)
  have hmem : Wl.cell? ⟨wr.heap.size + 1, 67, none⟩ = some (.pointer (some ⟨wr.heap.size, 0, none⟩)) := (hb.cell (p := ⟨wr.heap.size + 1, 67, none⟩) (by show wr.heap.size + 1 < _; omega)).trans h5.m
  have hlow : ∀ b, b < w.heap.size → Wh.heap[b]? = w.heap[b]? := fun b hb' =>
    (hp.frame b (by omega) (by simp only; omega) (by simp only; omega) (fun e => by have := hmol b e; omega)).trans ((hbl.block b (by omega)).trans ((h4.below.block b (by omega)).trans (hB.block b hb')))
  refine ⟨⟨?_, ?_, ?_, ?_, hlow⟩, ?_, ?_, ?_, ?_, hp.srow, hp.nil, fun i hi hne => ?_, ?_, fun g hg => ?_, ?_, ?_, ?_, ?_, h4.wf⟩
  · exact hp.os.trans (hbl.os.trans (h4.below.os.trans hB.os))
  · exact hp.tape.trans (hbl.tape.trans (h4.below.tape.trans hB.tape))
  · exact hp.output.trans (hbl.output.trans (h4.below.output.trans hB.output))
  · have := hp.size; omega
  · rw [← hmem]
    refine World.cell?_of_block (w := Wl) ?_
    show Wh.heap[wr.heap.size + 1]? = Wl.heap[wr.heap.size + 1]?
    cases ho : Wl.heap[wr.heap.size + 1]? with
    | none => simp [World.cell?, ho] at hmem
    | some o =>
      cases o with
      | cells cs t f => rw [fr _ cs t f ho (by omega) (by omega), ho]
      | _ => simp [World.cell?, ho] at hmem
  · have := hp.ch.cell (i := 6) (by omega); exact this
  · have := hp.ch.cell (i := 8) (by omega); exact this
  · have := hp.row.cell (i := kk) hk; simpa using this
  · have hc := hp.row.cell (i := i) hi
    simp only [if_neg hne] at hc
    by_cases hiM : i < M
    · obtain ⟨p, c, e1, hr⟩ := hH.done i hiM
      have e2 : lenAt np ql i = ql i := by unfold lenAt; rw [if_pos (by omega)]
      rw [e2]
      refine ⟨p, c, by rw [hc, e1], ownsRow_ints (B := w.heap.size) (cv := c) (ownsRow_of_block hr fun g hg => ?_)⟩
      obtain ⟨cur, e3⟩ := ownsRow_block hr hg
      have hlt := (Array.getElem?_eq_some_iff.1 e3).1
      have e4 : Wl.heap[g]? = W1.heap[g]? := (hbl.block g (by omega)).trans (h4.below.block g hlt)
      exact (frt g cur 3 (e4.trans e3) (by decide) (by decide)).trans e4
    · have e2 : lenAt np ql i = 0 := by unfold lenAt; rw [if_neg (by omega)]
      rw [e2, hc, hH.rest i (by omega)]
      exact ⟨none, 0, rfl, fun j hj => by omega⟩
  · refine ownsRow_base_a (ownsRow_of_block hrow fun g hg => ?_) (by omega)
    obtain ⟨cur, e3⟩ := ownsRow_block hrow hg
    exact frt g cur 3 e3 (by decide) (by decide)
  · obtain ⟨cur, e3⟩ := ownsRow_block hrow hg
    exact (Array.getElem?_eq_some_iff.1 e3).1
  · refine h4.st.kept fun b cs t e ht => ?_
    have e4 : Wl.heap[b]? = wr.heap[b]? := hbl.block b (Array.getElem?_eq_some_iff.1 e).1
    exact (frt b cs t (e4.trans e) (by rcases ht with ⟨rfl, _⟩ | ⟨rfl, _⟩ | rfl <;> decide) (by rcases ht with ⟨rfl, _⟩ | ⟨rfl, _⟩ | rfl <;> decide)).trans e4
  · obtain ⟨D, h1, h2⟩ := hp.map; exact ⟨D, _, h1, h2⟩
  · exact hp.own.gc
  · exact hp.own.cp
end Go.Proofs.Ybulkdsyu
