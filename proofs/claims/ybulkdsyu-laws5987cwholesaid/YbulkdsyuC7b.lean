import Derived.Test.YbulkdsyuC7
namespace Go.Proofs.Ybulkdsyu
open Go Go.RowKit Go.Maps Go.WideMaps Go.WideElems

/-- The map that is laid so far. -/
def MapAt (W1 : World) (ks : List (Int × Int)) (ps : List Nat) (mo : Option Nat) (w : World) : Prop :=
  (mo = none ∧ ks = [] ∧ ps = []) ∨ ∃ bm D, mo = some bm ∧ W1.heap.size ≤ bm ∧ w.ownsMap Yba.prog 72 ptrElem bm ks.length D ∧ DictL ks ps D

theorem MapAt.kept {W1 : World} {ks : List (Int × Int)} {ps : List Nat} {mo : Option Nat} {w w' : World} (h : MapAt W1 ks ps mo w) (hb : ∀ (b : Nat) es cl, w.heap[b]? = some (Obj.map es cl) → w'.heap[b]? = w.heap[b]?) : MapAt W1 ks ps mo w' := by
  rcases h with h | ⟨bm, D, e, hl, hm, hD⟩
  · exact .inl h
  · obtain ⟨es, cl, e1, _⟩ := id hm
    exact .inr ⟨bm, D, e, hl, ownsMap_of_block hm (hb bm es cl e1), hD⟩

/-- Behind the rounds over init. -/
structure Ph3 (W1 : World) (ks : List (Int × Int)) (ps : List Nat) (mo : Option Nat) (vk vp : Value) (w : World) : Prop where
  st : KSt W1.heap.size ks ps vk vp w
  below : Below W1.heap.size W1 w
  map : MapAt W1 ks ps mo w
  wf : ∀ k ∈ ks, KWf k

abbrev idObj (k : Int × Int) : Obj := .cells #[.int .i64 k.1, .int .u64 k.2] 72
abbrev copyObj (k : Int × Int) : Obj := .cells #[.int .i64 k.1, .slice none 0 0, .slice none 0 0, .int .u64 k.2, .int .u64 0, .slice none 0 0, .slice none 0 0, .slice none 0 0, .slice none 0 0] 77

theorem Ph3.step {W1 : World} {ks : List (Int × Int)} {ps : List Nat} {bm : Nat} {vk vp : Value} {wr : World} (h : Ph3 W1 ks ps (some bm) vk vp wr) (hl : ks.length ≤ 4096) {k : Int × Int} (hk : KWf k) :
    ∃ wB gk ck wC gp cp wD, (Instr.mapUpdate 70 (.map (some bm)) (.agg #[.int .i64 k.1, .int .u64 k.2]) (.pointer (some ⟨wr.heap.size + 1, 0, none⟩))).run Yba.prog ((wr.alloc (idObj k)).alloc (copyObj k)) = .ok () wB ∧
      wB.cell? ⟨wr.heap.size, 0, none⟩ = some (.int .i64 k.1) ∧ wB.cell? ⟨wr.heap.size, 1, none⟩ = some (.int .u64 k.2) ∧
      (Builtin.append_ #[67, 67] 67 #[vk, .slice (some ⟨wB.heap.size, 0, none⟩) 1 1]).run Yba.prog (wB.alloc (.cells #[.int .i64 k.1, .int .u64 k.2] 72)) = .ok (.slice (some ⟨gk, 0, none⟩) (ks.length + 1) ck) wC ∧
      (Builtin.append_ #[69, 69] 69 #[vp, .slice (some ⟨wC.heap.size, 0, none⟩) 1 1]).run Yba.prog (wC.alloc (.cells #[.pointer (some ⟨wr.heap.size + 1, 0, none⟩)] 73)) = .ok (.slice (some ⟨gp, 0, none⟩) (ks.length + 1) cp) wD ∧
      Ph3 W1 (ks ++ [k]) (ps ++ [wr.heap.size + 1]) (some bm) (.slice (some ⟨gk, 0, none⟩) (ks.length + 1) ck) (.slice (some ⟨gp, 0, none⟩) (ks.length + 1) cp) wD := by
  obtain ⟨D, hlo, hm, hD⟩ : ∃ D, W1.heap.size ≤ bm ∧ wr.ownsMap Yba.prog 72 ptrElem bm ks.length D ∧ DictL ks ps D := by
    rcases h.map with ⟨h1, _⟩ | ⟨bm', D, e, h1, h2, h3⟩
    · cases h1
    · cases e; exact ⟨D, h1, h2, h3⟩
  have hmA : ((wr.alloc (idObj k)).alloc (copyObj k)).ownsMap Yba.prog 72 ptrElem bm ks.length D := (hm.alloc _).alloc _
  have hgA : wr.grownBy ((wr.alloc (idObj k)).alloc (copyObj k)) none := (World.grownBy_alloc wr _ none).trans (World.grownBy_alloc _ _ none)
  obtain ⟨wB, hrun, hm2, hg⟩ := hmA.update keyed72 Yba.underlying70 (by unfold maxLen; omega) (keyOf72 hk) (ptrElem_ptr (wr.heap.size + 1))
  have hsA : ((wr.alloc (idObj k)).alloc (copyObj k)).heap.size = wr.heap.size + 2 := by simp
  have hbml := hm.lt
  have hc1 : ((wr.alloc (idObj k)).alloc (copyObj k)).heap[wr.heap.size + 1]? = some (.cells (copyCells k) 77 (0, 0)) := by
    have := World.alloc_heap_new (wr.alloc (idObj k)) (copyObj k)
    rw [World.size_alloc] at this
    exact this
  have hc2 : wB.heap[wr.heap.size + 1]? = some (.cells (copyCells k) 77 (0, 0)) := (hg.block _ (by omega) (fun e => by cases e; omega)).trans hc1
  have hi1 : wB.heap[wr.heap.size]? = some (idObj k) := (hg.block _ (by omega) (fun e => by cases e; omega)).trans ((Below.heap_alloc _ _ _ (by simp)).trans (World.alloc_heap_new wr _))
  have hsB := hg.size
  have fr : ∀ b, b < wr.heap.size → b ≠ bm → wB.heap[b]? = wr.heap[b]? := fun b hb hne => (hg.block b (by omega) (fun e => hne (by cases e; rfl))).trans (hgA.block b hb (by simp))
  have hst : KSt W1.heap.size ks ps vk vp wB := h.st.kept fun b cs t e _ => fr b (Array.getElem?_eq_some_iff.1 e).1 (cells_ne_map e hm)
  have hbB : Below W1.heap.size W1 wB := ((h.below.grown hgA h.below.size (fun k e => by cases e)).grown hg (by have := h.below.size; omega) (fun k e => by cases e; exact hlo))
  obtain ⟨gk, ck, wC, gp, cp, wD, r1, r2, hst2, hfr, _, hbD⟩ := hst.grow hbB.size (by omega) k (wr.heap.size + 1) hc2
  refine ⟨wB, gk, ck, wC, gp, cp, wD, hrun, by simp [World.cell?, hi1], by simp [World.cell?, hi1], r1, r2, ⟨hst2, hbB.trans hbD, .inr ⟨bm, _, rfl, hlo, ?_, hD.put (hm.tidy keyed72) h.st.len h.wf hk (wr.heap.size + 1)⟩, fun x hx => ?_⟩⟩
  · have hm3 : wD.ownsMap Yba.prog 72 ptrElem bm (ks.length + 1) (D.put (kl k) (.lit (.int .i64 (wr.heap.size + 1 : Nat)))) := ownsMap_of_block hm2 (hfr bm hm2.lt (fun e => by
        obtain ⟨cur, e1⟩ := ownsRow_block hst.keys e.symm
        exact cells_ne_map e1 hm2 rfl) (fun e => by
        obtain ⟨cur, e1⟩ := ownsRow_block hst.ptrs e.symm
        exact cells_ne_map e1 hm2 rfl))
    simpa using hm3
  · rcases List.mem_append.1 hx with h1 | h1
    · exact h.wf x h1
    · simp at h1; rw [h1]; exact hk

/-- In the rounds over copies. -/
structure Ph4 (W1 : World) (ks0 : List (Int × Int)) (ps0 : List Nat) (mo : Option Nat) (Gc nk : Nat) (ks1 : List (Int × Int)) (ps1 : List Nat) (vk vp : Value) (w : World) : Prop where
  st : KSt W1.heap.size (ks0 ++ ks1) (ps0 ++ ps1) vk vp w
  len1 : ps1.length = ks1.length
  below : Below W1.heap.size W1 w
  map : MapAt W1 ks0 ps0 mo w
  row : w.rowIs Gc 73 nk (fun i => if i < ks1.length then ptr (ps1.getD i 0) else .pointer none)
  gc : some Gc ≠ vp.ownBlock
  lo : W1.heap.size ≤ Gc
  wf : ∀ k ∈ ks0 ++ ks1, KWf k

theorem Ph4.start {W1 : World} {ks : List (Int × Int)} {ps : List Nat} {mo : Option Nat} {vk vp : Value} {w : World} (h : Ph3 W1 ks ps mo vk vp w) (nk : Nat) :
    Ph4 W1 ks ps mo w.heap.size nk [] [] vk vp (w.alloc (.cells (madeCells #[.pointer none] nk) 73)) := by
  have hb : Below w.heap.size w (w.alloc (.cells (madeCells #[.pointer none] nk) 73)) := (Below.refl _ w).alloc (Nat.le_refl _) _
  refine ⟨?_, rfl, h.below.trans (hb.mono h.below.size), h.map.kept fun b es cl e => hb.block b (Array.getElem?_eq_some_iff.1 e).1, World.rowIs_made w _ nk 73, fun e => ?_, h.below.size, ?_⟩
  · rw [List.append_nil, List.append_nil]
    exact h.st.below hb
  · obtain ⟨cur, e1⟩ := ownsRow_block h.st.ptrs e.symm
    have := (Array.getElem?_eq_some_iff.1 e1).1
    omega
  · rw [List.append_nil]; exact h.wf

theorem Ph4.step {W1 : World} {ks0 : List (Int × Int)} {ps0 : List Nat} {mo : Option Nat} {Gc nk : Nat} {ks1 : List (Int × Int)} {ps1 : List Nat} {vk vp : Value} {wr wA : World} (h : Ph4 W1 ks0 ps0 mo Gc nk ks1 ps1 vk vp wr) (hl : (ks0 ++ ks1).length ≤ 8192) {k : Int × Int} (hk : KWf k)
    (hA : wA = ((wr.setCell ⟨Gc, ks1.length, none⟩ (.pointer (some ⟨wr.heap.size + 1, 0, none⟩))).alloc (idObj k)).alloc (copyObj k)) :
    wA.cell? ⟨wr.heap.size, 0, none⟩ = some (.int .i64 k.1) ∧ wA.cell? ⟨wr.heap.size, 1, none⟩ = some (.int .u64 k.2) ∧ ∃ gk ck wC gp cp wD,
      (Builtin.append_ #[67, 67] 67 #[vk, .slice (some ⟨wA.heap.size, 0, none⟩) 1 1]).run Yba.prog (wA.alloc (.cells #[.int .i64 k.1, .int .u64 k.2] 72)) = .ok (.slice (some ⟨gk, 0, none⟩) ((ks0 ++ ks1).length + 1) ck) wC ∧
      (Builtin.append_ #[69, 69] 69 #[vp, .slice (some ⟨wC.heap.size, 0, none⟩) 1 1]).run Yba.prog (wC.alloc (.cells #[.pointer (some ⟨wr.heap.size + 1, 0, none⟩)] 73)) = .ok (.slice (some ⟨gp, 0, none⟩) ((ks0 ++ ks1).length + 1) cp) wD ∧
      Ph4 W1 ks0 ps0 mo Gc nk (ks1 ++ [k]) (ps1 ++ [wr.heap.size + 1]) (.slice (some ⟨gk, 0, none⟩) ((ks0 ++ ks1).length + 1) ck) (.slice (some ⟨gp, 0, none⟩) ((ks0 ++ ks1).length + 1) cp) wD := by
  have hs0 : (wr.setCell ⟨Gc, ks1.length, none⟩ (.pointer (some ⟨wr.heap.size + 1, 0, none⟩))).heap.size = wr.heap.size := by simp [World.setCell]
  have hsA : wA.heap.size = wr.heap.size + 2 := by rw [hA]; simp [hs0]
  have hi1 : wA.heap[wr.heap.size]? = some (idObj k) := by
    rw [hA]
    have := World.alloc_heap_new (wr.setCell ⟨Gc, ks1.length, none⟩ (.pointer (some ⟨wr.heap.size + 1, 0, none⟩))) (idObj k)
    rw [hs0] at this
    exact (Below.heap_alloc _ _ _ (by simp [hs0])).trans this
  have hc1 : wA.heap[wr.heap.size + 1]? = some (.cells (copyCells k) 77 (0, 0)) := by
    rw [hA]
    have := World.alloc_heap_new ((wr.setCell ⟨Gc, ks1.length, none⟩ (.pointer (some ⟨wr.heap.size + 1, 0, none⟩))).alloc (idObj k)) (copyObj k)
    rw [World.size_alloc, hs0] at this
    exact this
  have old : ∀ b, b < wr.heap.size → wA.heap[b]? = (wr.setCell ⟨Gc, ks1.length, none⟩ (.pointer (some ⟨wr.heap.size + 1, 0, none⟩))).heap[b]? := fun b hb => by
    rw [hA]; exact (Below.heap_alloc _ _ b (by simp [hs0]; omega)).trans (Below.heap_alloc _ _ b (by rw [hs0]; exact hb))
  have fr : ∀ b, b < wr.heap.size → b ≠ Gc → wA.heap[b]? = wr.heap[b]? := fun b hb hne => (old b hb).trans (Below.heap_setCell wr ⟨Gc, ks1.length, none⟩ _ b hne)
  have hrowA : wA.rowIs Gc 73 nk (fun i => if i < (ks1 ++ [k]).length then ptr ((ps1 ++ [wr.heap.size + 1]).getD i 0) else .pointer none) := by
    refine ((h.row.set ks1.length _).of_block (old _ h.row.lt)).congr fun i hi => ?_
    by_cases e : i = ks1.length
    · subst e
      simp [← h.len1, ptr]
    · by_cases e2 : i < ks1.length
      · simp [e, e2, show i < ks1.length + 1 by omega, List.getElem?_append_left (show i < ps1.length by rw [h.len1]; exact e2)]
      · simp [e, e2, show ¬ i < ks1.length + 1 by omega]
  have hst : KSt W1.heap.size (ks0 ++ ks1) (ps0 ++ ps1) vk vp wA := h.st.kept fun b cs t e ht => fr b (Array.getElem?_eq_some_iff.1 e).1 (fun e1 => by
    subst e1
    rcases ht with ⟨ht, _⟩ | ⟨_, ht⟩ | ht
    · exact rowIs_ne_cells h.row e (by rw [ht]; decide) rfl
    · exact h.gc ht
    · exact rowIs_ne_cells h.row e (by rw [ht]; decide) rfl)
  have hbA : Below W1.heap.size W1 wA := by
    have hb1 : Below W1.heap.size W1 (wr.setCell ⟨Gc, ks1.length, none⟩ (.pointer (some ⟨wr.heap.size + 1, 0, none⟩))) := h.below.setCell h.lo _
    rw [hA]
    exact (hb1.alloc hb1.size _).alloc (by have := hb1.size; simp; omega) _
  obtain ⟨gk, ck, wC, gp, cp, wD, r1, r2, hst2, hfr, hloc, hbD⟩ := hst.grow hbA.size (by omega) k (wr.heap.size + 1) hc1
  refine ⟨by simp [World.cell?, hi1], by simp [World.cell?, hi1], gk, ck, wC, gp, cp, wD, r1, r2, ⟨?_, by simp [h.len1], hbA.trans hbD, ?_, ?_, ?_, h.lo, fun x hx => ?_⟩⟩
  · rw [← List.append_assoc, ← List.append_assoc]; exact hst2
  · refine h.map.kept fun b es cl e => ?_
    have hb : b < wr.heap.size := (Array.getElem?_eq_some_iff.1 e).1
    have e2 : wA.heap[b]? = wr.heap[b]? := fr b hb (fun e1 => by subst e1; obtain ⟨cur, e3, _⟩ := h.row; rw [e3] at e; simp at e)
    refine (hfr b (by omega) (fun e1 => ?_) (fun e1 => ?_)).trans e2
    · obtain ⟨cur, e3⟩ := ownsRow_block hst.keys e1.symm
      rw [e2, e] at e3; simp at e3
    · obtain ⟨cur, e3⟩ := ownsRow_block hst.ptrs e1.symm
      rw [e2, e] at e3; simp at e3
  · refine hrowA.of_block (hfr Gc hrowA.lt (fun e1 => ?_) h.gc)
    obtain ⟨cur, e3⟩ := ownsRow_block hst.keys e1.symm
    exact rowIs_ne_cells hrowA e3 (by decide) rfl
  · intro e1
    simp [Value.ownBlock] at e1
    rcases hloc with e2 | e2
    · exact h.gc (by rw [e1]; exact e2)
    · have := h.row.lt; omega
  · rw [← List.append_assoc] at hx
    rcases List.mem_append.1 hx with h1 | h1
    · exact h.wf x h1
    · simp at h1; rw [h1]; exact hk
end Go.Proofs.Ybulkdsyu
