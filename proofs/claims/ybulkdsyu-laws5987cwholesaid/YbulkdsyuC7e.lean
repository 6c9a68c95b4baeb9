import Derived.Test.YbulkdsyuC7d
import Derived.LaidEqlPtr
namespace Go.Proofs.Ybulkdsyu
open Go Go.RowKit Go.Maps Go.WideMaps Go.WideElems

theorem run_neq_same73 (w : World) (a : Addr) : (binOp .neq 73 (.pointer (some a)) (.pointer (some a))).run Yba.prog w = .ok (.bool false) w := by
  obtain ⟨j, hj⟩ : ∃ j, Yba.prog.info? 77 = some j := Option.isSome_iff_exists.1 (by kernel_rfl)
  have h : ∀ d : Nat, (Op.equalIn (d + 1) 73 (.pointer (some a)) (.pointer (some a))).run Yba.prog w = .ok true w := fun d => by
    simp [Op.equalIn, run_underlying Yba.underlying73, sizeOf, typeInfo, hj, run_sameAddr_same]
  simp only [binOp]
  simp [Op.equal, Op.maxDepth, h 9999]

theorem nd_drop {ks : List (Int × Int)} {i : Nat} {k : Int × Int} (h : ks[i]? = some k) : nd (ks.drop i) = (if k ∈ ks.drop (i + 1) then 0 else 1) + nd (ks.drop (i + 1)) := by
  obtain ⟨hlt, e⟩ := List.getElem?_eq_some_iff.1 h
  rw [List.drop_eq_getElem_cons hlt, e]
  rfl

theorem mem_drop {ks : List (Int × Int)} {i : Nat} {k : Int × Int} : k ∈ ks.drop (i + 1) ↔ ∃ j, i < j ∧ ks[j]? = some k := by
  rw [List.mem_iff_getElem?]
  constructor
  · rintro ⟨j, h⟩
    rw [List.getElem?_drop] at h
    exact ⟨i + 1 + j, by omega, h⟩
  · rintro ⟨j, h1, h2⟩
    refine ⟨j - (i + 1), ?_⟩
    rw [List.getElem?_drop, show i + 1 + (j - (i + 1)) = j by omega]
    exact h2

theorem look_at {Wg W' : World} {bm n : Nat} {D : DataW Unit} {ks : List (Int × Int)} {ps : List Nat} (hm : Wg.ownsMap Yba.prog 72 ptrElem bm n D) (hD : DictL ks ps D) (hb : Below Wg.heap.size Wg W') {i : Nat} {k : Int × Int} {b : Nat} (h1 : ks[i]? = some k) (h2 : ps[i]? = some b) (hk : KWf k) (hl : k ∉ ks.drop (i + 1)) (q : Nat) :
    (Instr.lookup 70 (.map (some bm)) (.agg #[.int .i64 k.1, .int .u64 k.2]) false).run Yba.prog (W'.drewN q) = .ok (.pointer (some ⟨b, 0, none⟩)) (W'.drewN q) := by
  have hm2 : (W'.drewN q).ownsMap Yba.prog 72 ptrElem bm n D := ownsMap_of_block hm ((by simp : (W'.drewN q).heap[bm]? = W'.heap[bm]?).trans (hb.block bm hm.lt))
  have hz : (zeroValue 73).run Yba.prog (W'.drewN q) = .ok (.pointer none) (W'.drewN q) := by
    exact Yba.zeroValue73 (W'.drewN q)
  obtain ⟨v, p, hrun, hv⟩ := hm2.lookup keyed72 Yba.underlying70 hz (zd := .lit (.int .i64 (-1))) (zp := []) rfl (keyOf72 hk)
  rw [hD.hit i k b h1 h2 (fun j k' hj hj' e => hl (mem_drop.2 ⟨j, hj, by rw [hj', e]⟩))] at hv
  have e := ptrElem_inv hv
  rw [e] at hrun
  exact hrun

theorem len_at {Wg W' : World} {bm n : Nat} {D : DataW Unit} {ks : List (Int × Int)} {ps : List Nat} (hm : Wg.ownsMap Yba.prog 72 ptrElem bm n D) (hD : DictL ks ps D) (hb : Below Wg.heap.size Wg W') (ty : TypeId) :
    (Builtin.len_ #[70] ty #[.map (some bm)]).run Yba.prog W' = .ok (.int .i64 (nd ks : Nat)) W' := by
  have hm2 : W'.ownsMap Yba.prog 72 ptrElem bm n D := ownsMap_of_block hm (hb.block bm hm.lt)
  rw [hm2.len Yba.underlying70 ty, hD.size]

theorem KSt.forms {B : Nat} {ks : List (Int × Int)} {ps : List Nat} {vk vp : Value} {w : World} (h : KSt B ks ps vk vp w) : ∃ n, Hid (n = ks.length) ∧ ∃ pk ck pp cp, vk = .slice pk n ck ∧ vp = .slice pp n cp := by
  obtain ⟨pk, ck, rfl⟩ := ownsRow_form h.keys
  obtain ⟨pp, cp, rfl⟩ := ownsRow_form h.ptrs
  exact ⟨_, rfl, pk, ck, pp, cp, rfl, rfl⟩

theorem KSt.some_at {B n : Nat} {ks : List (Int × Int)} {ps : List Nat} {pk pp : Option Addr} {ck cp : Nat} {w : World} (h : KSt B ks ps (.slice pk n ck) (.slice pp n cp) w) (hn : n = ks.length) (h0 : 0 < n) : ∃ g gp, pk = some ⟨g, 0, none⟩ ∧ pp = some ⟨gp, 0, none⟩ := by
  obtain ⟨g, c, e⟩ := owned_form h.keys (by omega)
  obtain ⟨g', c', e'⟩ := owned_form h.ptrs (by omega)
  cases e
  cases e'
  exact ⟨g, g', rfl, rfl⟩

theorem KSt.key_in {B n : Nat} {ks : List (Int × Int)} {ps : List Nat} {g c : Nat} {vp : Value} {w W' : World} (h : KSt B ks ps (.slice (some ⟨g, 0, none⟩) n c) vp w) (hn : n = ks.length) (hb : Below w.heap.size w W') {i : Nat} {k : Int × Int} (hi : ks[i]? = some k) :
    W'.cell? ⟨g, i * 2, none⟩ = some (.int .i64 k.1) ∧ W'.cell? ⟨g, i * 2 + 1, none⟩ = some (.int .u64 k.2) := by
  subst hn
  obtain ⟨h1, h2⟩ := h.key_at hi
  exact ⟨(hb.cell (p := ⟨g, i * 2, none⟩) (cell_lt h1)).trans h1, (hb.cell (p := ⟨g, i * 2 + 1, none⟩) (cell_lt h2)).trans h2⟩

theorem KSt.ptr_in {B n : Nat} {ks : List (Int × Int)} {ps : List Nat} {g c : Nat} {vk : Value} {w W' : World} (h : KSt B ks ps vk (.slice (some ⟨g, 0, none⟩) n c) w) (hn : n = ks.length) (hb : Below w.heap.size w W') {i b : Nat} (hi : ps[i]? = some b) :
    W'.cell? ⟨g, i, none⟩ = some (.pointer (some ⟨b, 0, none⟩)) := by
  subst hn
  have h1 := h.ptr_at hi
  exact (hb.cell (p := ⟨g, i, none⟩) (cell_lt h1)).trans h1

theorem Fin5.lc_ints {w Wl Wh : World} {sz kk np nk nl G Gc Bc bm : Nat} {ql : Nat → Nat} {qf : Nat → Nat → Int} {pv : Option Addr} {cv : Nat} {rv : Option Addr} {rc : Nat} {xs : List Int} {ks ks1 : List (Int × Int)} {ps ps1 : List Nat} {vk vp : Value} {B : Nat}
    (h : Fin5 w Wl Wh sz kk np nk nl G Gc Bc bm ql qf pv cv rv rc xs ks ks1 ps ps1 vk vp B) : IntsAt Wh Wl.heap.size pv nl (fun i => xs.getD i 0) := fun i hi => by
  obtain ⟨b, off, e, _, hc⟩ := ownsRow_ints h.lc i hi
  subst e
  exact ⟨b, off, rfl, h.lclt b rfl, hc⟩

/-- What loop 9 writes to. -/
theorem Fin5.r_form {w Wl Wh : World} {sz kk np nk nl G Gc Bc bm : Nat} {ql : Nat → Nat} {qf : Nat → Nat → Int} {pv : Option Addr} {cv : Nat} {rv : Option Addr} {rc : Nat} {xs : List Int} {ks ks1 : List (Int × Int)} {ps ps1 : List Nat} {vk vp : Value} {B : Nat}
    (h : Fin5 w Wl Wh sz kk np nk nl G Gc Bc bm ql qf pv cv rv rc xs ks ks1 ps ps1 vk vp B) (h0 : 0 < nl) : ∃ g, rv = some ⟨g, 0, none⟩ ∧ Wl.heap.size ≤ g ∧ g < Wh.heap.size ∧
      ∀ i, i < nl → (∃ x, Wh.cell? ⟨g, i, none⟩ = some (.int .i64 x)) ∧ Wh.frozen? ⟨g, i, none⟩ = false := by
  have hr := h.srow
  have hrlen := hr.1
  rcases id hr.2 with ⟨_, e⟩ | ⟨g, cap, cur, e, hlo, hg, h1, h2, h3, h4⟩
  · omega
  · cases e
    refine ⟨g, rfl, hlo, (Array.getElem?_eq_some_iff.1 hg).1, fun i hi => ⟨?_, ?_⟩⟩
    · have hc := hr.cellAt i (by omega)
      have hi2 : i < (xs.mergeSort (fun x y => decide (x ≤ y))).length := by simp at hrlen; simp; omega
      rw [hc]
      rw [List.getElem?_map, List.getElem?_eq_getElem hi2]
      exact ⟨_, rfl⟩
    · simp [World.frozen?, hg]

theorem IntsAt.kept_lt {w w' : World} {B : Nat} {p : Option Addr} {n : Nat} {f : Nat → Int} (h : IntsAt w B p n f) (hb : Below w.heap.size w w') : IntsAt w' B p n f := fun i hi => by
  obtain ⟨b, off, e, h1, h2⟩ := h i hi
  exact ⟨b, off, e, h1, (hb.cell (p := ⟨b, off + i, none⟩) (cell_lt h2)).trans h2⟩

/-- The cells of r, from block B on. -/
def RCells (w : World) (B : Nat) (rv : Option Addr) (n : Nat) : Prop :=
  ∀ i, i < n → ∃ g, rv = some ⟨g, 0, none⟩ ∧ B ≤ g ∧ (∃ x, w.cell? ⟨g, i, none⟩ = some (.int .i64 x)) ∧ w.frozen? ⟨g, i, none⟩ = false

theorem Fin5.rcells {w Wl Wh : World} {sz kk np nk nl G Gc Bc bm : Nat} {ql : Nat → Nat} {qf : Nat → Nat → Int} {pv : Option Addr} {cv : Nat} {rv : Option Addr} {rc : Nat} {xs : List Int} {ks ks1 : List (Int × Int)} {ps ps1 : List Nat} {vk vp : Value} {B : Nat}
    (h : Fin5 w Wl Wh sz kk np nk nl G Gc Bc bm ql qf pv cv rv rc xs ks ks1 ps ps1 vk vp B) {W' : World} (hb : Below Wh.heap.size Wh W') : RCells W' Wl.heap.size rv nl := fun i hi => by
  obtain ⟨g, e, h1, h2, h3⟩ := h.r_form (by omega)
  obtain ⟨⟨x, h4⟩, h5⟩ := h3 i hi
  exact ⟨g, e, h1, ⟨x, (hb.cell (p := ⟨g, i, none⟩) h2).trans h4⟩, (hb.frozen (p := ⟨g, i, none⟩) h2).trans h5⟩

theorem RCells.step {w : World} {B g n : Nat} (h : RCells w B (some ⟨g, 0, none⟩) n) (i : Nat) (y : Int) : RCells (w.setCell ⟨g, i, none⟩ (.int .i64 y)) B (some ⟨g, 0, none⟩) n := fun j hj => by
  obtain ⟨g', e, h1, ⟨x, h2⟩, h3⟩ := h j hj
  cases e
  refine ⟨g, rfl, h1, ?_, by rw [World.frozen?_setCell]; exact h3⟩
  by_cases e : i = j
  · subst e
    exact ⟨y, World.cell?_setCell_same _ _ _ h2⟩
  · exact ⟨x, (World.cell?_setCell_other _ _ _ _ (fun h => e (by cases h; rfl))).trans h2⟩

/-- What loop 8 reads. -/
theorem Fin5.copy_at {w Wl Wh : World} {sz kk np nk nl G Gc Bc bm : Nat} {ql : Nat → Nat} {qf : Nat → Nat → Int} {pv : Option Addr} {cv : Nat} {rv : Option Addr} {rc : Nat} {xs : List Int} {ks : List (Int × Int)} {fk : Nat → Int × Int} {ps ps1 : List Nat} {vk vp : Value} {B : Nat}
    (h : Fin5 w Wl Wh sz kk np nk nl G Gc Bc bm ql qf pv cv rv rc xs ks ((List.range nk).map fk) ps ps1 vk vp B) {W' : World} (hb : Below Wh.heap.size Wh W') {i : Nat} (hi : i < nk) :
    ∃ b, W'.cell? ⟨Gc, i, none⟩ = some (.pointer (some ⟨b, 0, none⟩)) ∧ W'.cell? ⟨b, 0, none⟩ = some (.int .i64 (fk i).1) ∧ W'.cell? ⟨b, 3, none⟩ = some (.int .u64 (fk i).2) := by
  have h1 := h.row.cell hi
  have h2 := h.cp i hi
  have hlt := (Array.getElem?_eq_some_iff.1 h2).1
  rw [← hb.block _ hlt] at h2
  refine ⟨ps1.getD i 0, (hb.cell (p := ⟨Gc, i, none⟩) h.row.lt).trans h1, ?_, ?_⟩
  · simp only [World.cell?, h2]
    simp [copyCells, hi]
  · simp only [World.cell?, h2]
    simp [copyCells, hi]

theorem run_eql_nil73 (w : World) (a : Addr) : (binOp .eql 73 (.pointer (some a)) (.pointer none)).run Yba.prog w = .ok (.bool false) w := run_eql_pointer_nil w 73 (some a) (by kernel_rfl)
end Go.Proofs.Ybulkdsyu
