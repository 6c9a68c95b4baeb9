import Derived.Test.YbulkdsyuC7b
namespace Go.Proofs.Ybulkdsyu
open Go Go.RowKit Go.Maps Go.WideMaps Go.WideElems

abbrev chCells (G sz : Nat) (mo : Option Nat) : Array Value := #[.int .i64 0, .slice none 0 0, .slice none 0 0, .bool false, .int .i64 0, .slice none 0 0, .slice (some ⟨G, 0, none⟩) sz sz, .slice none 0 0, .map mo, .slice none 0 0, .slice none 0 0, .slice none 0 0,
  .slice none 0 0, .pointer none, .slice none 0 0, .pointer none, .slice none 0 0, .bool false, .pointer none, .slice none 0 0, .slice none 0 0]

theorem zero67 : Yba.zeroCells149[67]? = some (.pointer none) := by kernel_rfl

theorem member_cell (w : World) : (w.alloc (.cells Yba.zeroCells149 149)).cell? ⟨w.heap.size, 67, none⟩ = some (.pointer none) ∧ (w.alloc (.cells Yba.zeroCells149 149)).frozen? ⟨w.heap.size, 67, none⟩ = false := by
  have h := World.alloc_heap_new w (.cells Yba.zeroCells149 149)
  exact ⟨by simp only [World.cell?, h]; exact zero67, by simp only [World.frozen?, h]; rfl⟩

/-- Behind the making of the change and of the member. -/
structure Ph5 (wr : World) (G sz : Nat) (mo : Option Nat) (Wp : World) : Prop where
  below : Below wr.heap.size wr Wp
  size : Wp.heap.size = wr.heap.size + 2
  ch : Wp.rowIs wr.heap.size 89 21 (fun i => (chCells G sz mo).getD i undef)
  m : Wp.cell? ⟨wr.heap.size + 1, 67, none⟩ = some (.pointer (some ⟨wr.heap.size, 0, none⟩))

theorem Ph5.mk' (wr Wc : World) (G sz : Nat) (mo : Option Nat) (hW : wr.alloc (.cells (chCells G sz mo) 89) = Wc) :
    Ph5 wr G sz mo ((Wc.alloc (.cells Yba.zeroCells149 149)).setCell ⟨Wc.heap.size, 67, none⟩ (.pointer (some ⟨wr.heap.size, 0, none⟩))) := by
  have hs : Wc.heap.size = wr.heap.size + 1 := by rw [← hW]; simp
  have hb1 : Below wr.heap.size wr Wc := by rw [← hW]; exact (Below.refl _ wr).alloc (Nat.le_refl _) _
  have hrow : Wc.rowIs wr.heap.size 89 21 (fun i => (chCells G sz mo).getD i undef) := by
    rw [← hW]
    refine World.rowIs_alloc wr (chCells G sz mo) 89 _ fun i hi => ?_
    rw [Array.getD_eq_getD_getElem?, Array.getElem?_eq_getElem hi]
    rfl
  refine ⟨(hb1.alloc (by omega) _).setCell (by show wr.heap.size ≤ Wc.heap.size; omega) _, by simp [World.setCell, hs], ?_, ?_⟩
  · exact (hrow.alloc _).setOther (by show wr.heap.size ≠ Wc.heap.size; omega) _
  · rw [← hs]
    have h := World.alloc_heap_new Wc (.cells Yba.zeroCells149 149)
    have hz : 67 < Yba.zeroCells149.size := (Array.getElem?_eq_some_iff.1 zero67).1
    have hlt : Wc.heap.size < (Wc.alloc (.cells Yba.zeroCells149 149)).heap.size := by simp
    have hcs := World.rowIs_alloc Wc Yba.zeroCells149 149 (fun i => Yba.zeroCells149.getD i undef) (fun i hi => by rw [Array.getD_eq_getD_getElem?, Array.getElem?_eq_getElem hi]; rfl)
    have := (hcs.set 67 (.pointer (some ⟨wr.heap.size, 0, none⟩))).cell hz
    simpa using this

theorem pre_of {w W1 wr Wp Wl : World} {sz np nk kk M : Nat} {ql : Nat → Nat} {qf : Nat → Nat → Int} {hv : Nat → Value} {mo : Option Nat} {Gc nl : Nat} {xs : List Int} {ks0 ks1 : List (Int × Int)} {ps0 ps1 : List Nat} {vk vp : Value} {pv : Option Addr} {cv : Nat}
    (hH : Heard w.heap.size w.heap.size sz np ql qf M hv W1) (h4 : Ph4 W1 ks0 ps0 mo Gc nk ks1 ps1 vk vp wr) (h5 : Ph5 wr w.heap.size sz mo Wp) (hb : Below Wp.heap.size Wp Wl)
    (hrow : Wl.ownsRow Wp.heap.size 3 1 (.slice pv nl cv) nl ((List.range nl).map fun i => .int .i64 (xs.getD i 0))) (hk : kk < sz) (hsz : sz ≤ 16) (hlen : xs.length = nl) (hn : nl ≤ 4096) (hN : nk ≤ 4096) (hl1 : ks1.length = nk) (hl0 : ks0.length ≤ 4096) :
    Pre ⟨wr.heap.size + 1, wr.heap.size, w.heap.size, sz, kk, nk, Gc, hv, fun i => (chCells w.heap.size sz mo).getD i undef, pv, nl, cv, xs, ks0, ps0, ks1, ps1, mo⟩ Wl := by
  have hbl : Below wr.heap.size wr Wl := h5.below.trans (hb.mono (by have := h5.size; omega))
  have hs5 := h5.size
  have hps0 : ps0.length = ks0.length := by
    have h1 := h4.st.len
    have h2 := h4.len1
    simp at h1
    omega
  have hW1 := h4.below
  have blk1 : ∀ b, b < W1.heap.size → Wl.heap[b]? = W1.heap[b]? := fun b hb' => (hbl.block b (Nat.lt_of_lt_of_le hb' hW1.size)).trans (hW1.block b hb')
  have hrow1 : Wl.rowIs w.heap.size 55 sz hv := hH.row.of_block (blk1 _ hH.row.lt)
  refine ⟨⟨?_, fun i hi => ?_⟩, (hb.cell (p := ⟨wr.heap.size + 1, 67, none⟩) (by show wr.heap.size + 1 < _; omega)).trans h5.m, h5.ch.of_block (hb.block _ (by omega)), rfl, rfl, hrow1, hk, hsz, hlen, hn, ownsRow_ints hrow, hl1, by simp only; rw [h4.len1, hl1], hN, hps0, hl0,
    fun k hk => h4.wf k (List.mem_append.2 (.inr hk)), fun k hk => h4.wf k (List.mem_append.2 (.inl hk)), ?_⟩
  · refine (h4.row.of_block (hbl.block _ h4.row.lt)).congr fun i hi => ?_
    simp only
    rw [if_pos (by rw [hl1]; exact hi)]
  · simp only at hi ⊢
    have h1 : i < ps1.length := by rw [h4.len1, hl1]; exact hi
    have h2 : i < ks1.length := by rw [hl1]; exact hi
    have e := h4.st.cp (ks0.length + i) (ps1.getD i 0) (ks1.getD i (0, 0)) (by rw [List.getElem?_append_right (by omega)]; simp [hps0, List.getElem?_eq_getElem h1]) (by rw [List.getElem?_append_right (by omega)]; simp [List.getElem?_eq_getElem h2])
    exact (hbl.block _ (Array.getElem?_eq_some_iff.1 e).1).trans e
  · rcases h4.map with h1 | ⟨bm, D, e, _, hm, hD⟩
    · exact .inl h1
    · exact .inr ⟨bm, D, e, ownsMap_of_block hm (hbl.block _ hm.lt), hD⟩
end Go.Proofs.Ybulkdsyu
