import Derived.Test.YbulkdsyuC6
import Derived.Test.YbulkdsyuB8b
namespace Go.Proofs.Ybulkdsyu
open Go Go.RowKit Go.Maps Go.WideMaps Go.WideElems

def keyCell (k : Int × Int) : List Value := [.int .i64 k.1, .int .u64 k.2]
def keyCells (ks : List (Int × Int)) : List Value := ks.flatMap keyCell
theorem keyCells_snoc (ks : List (Int × Int)) (k : Int × Int) : keyCells (ks ++ [k]) = keyCells ks ++ keyCell k := by simp [keyCells]
theorem keyCells_length (ks : List (Int × Int)) : (keyCells ks).length = ks.length * 2 := by
  induction ks with
  | nil => rfl
  | cons a t ih => simp only [keyCells, List.flatMap_cons, List.length_append, List.length_cons] at *; rw [ih]; simp [keyCell]; omega
theorem keyCells_at (ks : List (Int × Int)) (i j : Nat) (k : Int × Int) (hi : ks[i]? = some k) (hj : j < 2) : (keyCells ks)[i * 2 + j]? = (keyCell k)[j]? := by
  induction ks generalizing i with
  | nil => simp at hi
  | cons a t ih =>
    cases i with
    | zero =>
      simp at hi
      subst hi
      simp only [keyCells, List.flatMap_cons]
      rw [List.getElem?_append_left (by simp [keyCell]; omega)]
      simp
    | succ i =>
      simp at hi
      have := ih i hi
      simp only [keyCells, List.flatMap_cons] at *
      rw [List.getElem?_append_right (by simp [keyCell]; omega)]
      rw [← this]
      congr 1
      simp [keyCell]
      omega

theorem info72 : (Yba.prog.info? 72).map (fun i => (i.zero, i.size, i.bytes)) = some (some (.agg #[.int .i64 0, .int .u64 0]), 2, 16) := by kernel_rfl
theorem info73 : (Yba.prog.info? 73).map (fun i => (i.zero, i.size, i.bytes)) = some (some (.pointer none), 1, 8) := by kernel_rfl

/-- append(keys, id). -/
theorem append_key {B n : Nat} {v : Value} {cs : List Value} {wy : World} (h : wy.ownsRow B 72 2 v n cs) (hB : B ≤ wy.heap.size) (hn : n ≤ 9000) (k : Int × Int) :
    ∃ g c w2, (Builtin.append_ #[67, 67] 67 #[v, .slice (some ⟨wy.heap.size, 0, none⟩) 1 1]).run Yba.prog (wy.alloc (.cells #[.int .i64 k.1, .int .u64 k.2] 72)) = .ok (.slice (some ⟨g, 0, none⟩) (n + 1) c) w2 ∧
      w2.ownsRow B 72 2 (.slice (some ⟨g, 0, none⟩) (n + 1) c) (n + 1) (cs ++ keyCell k) ∧ wy.grownBy w2 v.ownBlock ∧ (some g = v.ownBlock ∨ wy.heap.size ≤ g) := by
  obtain ⟨i0, hi, hz0, hz1, hz2⟩ := info_parts info72
  obtain ⟨v', w', hrun, hown, hg, hnil, hloc⟩ := run_append_own_at (P := Yba.prog) (wy.alloc (.cells (keyCell k).toArray 72)) B 67 67 72 i0 _ 2 16 Yba.underlying67 hi hz0 hz1 hz2 rfl (by decide) v n cs (h.alloc _)
    ⟨wy.heap.size, 0, none⟩ 1 1 (keyCell k) rfl
    (fun j u hj => by
      rw [Addr.add_lit, Nat.zero_add]
      have : (wy.alloc (.cells (keyCell k).toArray 72)).cell? ⟨wy.heap.size, j, none⟩ = (keyCell k).toArray[j]? := cell_of_row _ _ _ _ _ _ (heap_alloc_new _ _)
      rw [this]
      simpa using hj)
    (fun u hu => by simp [keyCell] at hu; rcases hu with rfl | rfl <;> rfl) (by unfold maxLen; omega) (by omega) (by simp; omega)
  have hne : v' ≠ .slice none 0 0 := fun e => by have := (hnil.1 e).2; omega
  rcases hown.2 with ⟨e, _⟩ | ⟨gk, ck, cur, rfl, rest⟩
  · exact absurd e hne
  refine ⟨gk, ck, w', hrun, hown, (World.grownBy_alloc wy _ _).trans hg, ?_⟩
  rcases hloc with e | e
  · exact .inl e
  · refine .inr ?_
    simp [Value.ownBlock] at e
    omega

/-- append(ptrs, p). -/
theorem append_ptr {B n : Nat} {v : Value} {cs : List Value} {wy : World} (h : wy.ownsRow B 73 1 v n cs) (hB : B ≤ wy.heap.size) (hn : n ≤ 9000) (b : Nat) :
    ∃ g c w2, (Builtin.append_ #[69, 69] 69 #[v, .slice (some ⟨wy.heap.size, 0, none⟩) 1 1]).run Yba.prog (wy.alloc (.cells #[.pointer (some ⟨b, 0, none⟩)] 73)) = .ok (.slice (some ⟨g, 0, none⟩) (n + 1) c) w2 ∧
      w2.ownsRow B 73 1 (.slice (some ⟨g, 0, none⟩) (n + 1) c) (n + 1) (cs ++ [ptr b]) ∧ wy.grownBy w2 v.ownBlock ∧ (some g = v.ownBlock ∨ wy.heap.size ≤ g) := by
  obtain ⟨i0, hi, hz0, hz1, hz2⟩ := info_parts info73
  obtain ⟨v', w', hrun, hown, hg, hnil, hloc⟩ := run_append_own_at (P := Yba.prog) (wy.alloc (.cells #[ptr b] 73)) B 69 69 73 i0 _ 1 8 Yba.underlying69 hi hz0 hz1 hz2 rfl (by decide) v n cs (h.alloc _)
    ⟨wy.heap.size, 0, none⟩ 1 1 [ptr b] rfl (cell_one_new wy _ _) (fun u hu => by simp at hu; subst hu; rfl) (by unfold maxLen; omega) (by omega) (by simp; omega)
  have hne : v' ≠ .slice none 0 0 := fun e => by have := (hnil.1 e).2; omega
  rcases hown.2 with ⟨e, _⟩ | ⟨gk, ck, cur, rfl, rest⟩
  · exact absurd e hne
  refine ⟨gk, ck, w', hrun, hown, (World.grownBy_alloc wy _ _).trans hg, ?_⟩
  rcases hloc with e | e
  · exact .inl e
  · refine .inr ?_
    simp [Value.ownBlock] at e
    omega

/-- The keys and the pointers that have been laid so far, in blocks from B on. -/
structure KSt (B : Nat) (ks : List (Int × Int)) (ps : List Nat) (vk vp : Value) (w : World) : Prop where
  keys : w.ownsRow B 72 2 vk ks.length (keyCells ks)
  ptrs : w.ownsRow B 73 1 vp ks.length (ps.map ptr)
  len : ps.length = ks.length
  cp : ∀ (i : Nat) b k, ps[i]? = some b → ks[i]? = some k → w.heap[b]? = some (.cells (copyCells k) 77 (0, 0))

theorem KSt.start (B : Nat) (w : World) : KSt B [] [] (.slice none 0 0) (.slice none 0 0) w :=
  ⟨⟨rfl, .inl ⟨rfl, rfl⟩⟩, ⟨rfl, .inl ⟨rfl, rfl⟩⟩, rfl, fun i b k h => by simp at h⟩

/-- Nothing of it has turned. -/
theorem KSt.kept {B : Nat} {ks : List (Int × Int)} {ps : List Nat} {vk vp : Value} {w w' : World} (h : KSt B ks ps vk vp w)
    (hb : ∀ (b : Nat) (cs : Array Value) (t : TypeId), w.heap[b]? = some (Obj.cells cs t (0, 0)) → (t = 72 ∧ some b = vk.ownBlock ∨ t = 73 ∧ some b = vp.ownBlock ∨ t = 77) → w'.heap[b]? = w.heap[b]?) : KSt B ks ps vk vp w' := by
  refine ⟨ownsRow_of_block h.keys fun g hg => ?_, ownsRow_of_block h.ptrs fun g hg => ?_, h.len, fun i b k h1 h2 => ?_⟩
  · obtain ⟨cur, e⟩ := ownsRow_block h.keys hg
    exact hb g _ _ e (.inl ⟨rfl, hg.symm⟩)
  · obtain ⟨cur, e⟩ := ownsRow_block h.ptrs hg
    exact hb g _ _ e (.inr (.inl ⟨rfl, hg.symm⟩))
  · exact (hb b _ _ (h.cp i b k h1 h2) (.inr (.inr rfl))).trans (h.cp i b k h1 h2)

theorem KSt.below {B : Nat} {ks : List (Int × Int)} {ps : List Nat} {vk vp : Value} {w w' : World} (h : KSt B ks ps vk vp w) (hb : Below w.heap.size w w') : KSt B ks ps vk vp w' :=
  h.kept fun b _ _ e _ => hb.block b (Array.getElem?_eq_some_iff.1 e).1

/-- One key and its pointer more. -/
theorem KSt.grow {B : Nat} {ks : List (Int × Int)} {ps : List Nat} {vk vp : Value} {wB : World} (h : KSt B ks ps vk vp wB) (hB : B ≤ wB.heap.size) (hl : ks.length ≤ 9000) (k : Int × Int) (b2 : Nat)
    (hcp : wB.heap[b2]? = some (.cells (copyCells k) 77 (0, 0))) :
    ∃ gk ck wC gp cp wD, (Builtin.append_ #[67, 67] 67 #[vk, .slice (some ⟨wB.heap.size, 0, none⟩) 1 1]).run Yba.prog (wB.alloc (.cells #[.int .i64 k.1, .int .u64 k.2] 72)) = .ok (.slice (some ⟨gk, 0, none⟩) (ks.length + 1) ck) wC ∧
      (Builtin.append_ #[69, 69] 69 #[vp, .slice (some ⟨wC.heap.size, 0, none⟩) 1 1]).run Yba.prog (wC.alloc (.cells #[.pointer (some ⟨b2, 0, none⟩)] 73)) = .ok (.slice (some ⟨gp, 0, none⟩) (ks.length + 1) cp) wD ∧
      KSt B (ks ++ [k]) (ps ++ [b2]) (.slice (some ⟨gk, 0, none⟩) (ks.length + 1) ck) (.slice (some ⟨gp, 0, none⟩) (ks.length + 1) cp) wD ∧
      (∀ b, b < wB.heap.size → some b ≠ vk.ownBlock → some b ≠ vp.ownBlock → wD.heap[b]? = wB.heap[b]?) ∧ (some gp = vp.ownBlock ∨ wB.heap.size ≤ gp) ∧ Below B wB wD := by
  obtain ⟨gk, ck, wC, hr1, ho1, hg1, hl1⟩ := append_key h.keys hB hl k
  have hlt : ∀ {b : Nat} {o : Obj}, wB.heap[b]? = some o → b < wB.heap.size := fun h => (Array.getElem?_eq_some_iff.1 h).1
  have hp1 : wC.ownsRow B 73 1 vp ks.length (ps.map ptr) := ownsRow_of_block h.ptrs fun g hg => by
    obtain ⟨cur, e⟩ := ownsRow_block h.ptrs hg
    refine hg1.block g (hlt e) fun e1 => ?_
    exact ne_block h.keys e (by decide) e1
  have hs1 := hg1.size
  obtain ⟨gp, cp, wD, hr2, ho2, hg2, hl2⟩ := append_ptr hp1 (by omega) hl b2
  have hs2 := hg2.size
  have fr : ∀ b, b < wB.heap.size → some b ≠ vk.ownBlock → some b ≠ vp.ownBlock → wD.heap[b]? = wB.heap[b]? := fun b hb h1 h2 =>
    (hg2.block b (by omega) h2).trans (hg1.block b hb h1)
  have hbel : Below B wB wD := ((Below.refl B wB).grown hg1 hB fun k hk => (h.keys.lt k hk).1).grown hg2 (by omega) fun k hk => (h.ptrs.lt k hk).1
  have fr77 : ∀ (b : Nat) cs, wB.heap[b]? = some (Obj.cells cs 77 (0, 0)) → wD.heap[b]? = wB.heap[b]? := fun b cs e =>
    fr b (hlt e) (fun e1 => ne_block h.keys e (by decide) e1) (fun e1 => ne_block h.ptrs e (by decide) e1)
  refine ⟨gk, ck, wC, gp, cp, wD, hr1, hr2, ⟨?_, ?_, by simp [h.len], ?_⟩, fr, ?_, hbel⟩
  · have hk2 : wD.ownsRow B 72 2 (.slice (some ⟨gk, 0, none⟩) (ks.length + 1) ck) (ks.length + 1) (keyCells ks ++ keyCell k) := ownsRow_of_block ho1 fun g hg => by
      obtain ⟨cur, e⟩ := ownsRow_block ho1 hg
      refine hg2.block g (Array.getElem?_eq_some_iff.1 e).1 fun e1 => ?_
      exact ne_block hp1 e (by decide) e1
    rw [keyCells_snoc]
    simpa using hk2
  · simpa using ho2
  · intro i b k' h1 h2
    by_cases hi : i < ks.length
    · rw [List.getElem?_append_left (by rw [h.len]; exact hi)] at h1
      rw [List.getElem?_append_left hi] at h2
      have e := h.cp i b k' h1 h2
      exact (fr77 b _ e).trans e
    · have hi' : i = ks.length := by
        have := (List.getElem?_eq_some_iff.1 h2).1
        simp at this; omega
      subst hi'
      rw [List.getElem?_append_right (by rw [h.len]; exact Nat.le_refl _)] at h1
      simp [h.len] at h1 h2
      subst h1 h2
      exact (fr77 _ _ hcp).trans hcp
  · rcases hl2 with e | e
    · exact .inl e
    · exact .inr (by omega)

theorem KSt.key_at {B : Nat} {ks : List (Int × Int)} {ps : List Nat} {g c : Nat} {vp : Value} {w : World} (h : KSt B ks ps (.slice (some ⟨g, 0, none⟩) ks.length c) vp w) {i : Nat} {k : Int × Int} (hi : ks[i]? = some k) :
    w.cell? ⟨g, i * 2, none⟩ = some (.int .i64 k.1) ∧ w.cell? ⟨g, i * 2 + 1, none⟩ = some (.int .u64 k.2) := by
  have hlt := (List.getElem?_eq_some_iff.1 hi).1
  have e0 := keyCells_at ks i 0 k hi (by omega)
  have e1 := keyCells_at ks i 1 k hi (by omega)
  exact ⟨(h.keys.cellAt (i * 2) (by omega)).trans (by simpa [keyCell] using e0), (h.keys.cellAt (i * 2 + 1) (by omega)).trans (by simpa [keyCell] using e1)⟩

theorem KSt.ptr_at {B : Nat} {ks : List (Int × Int)} {ps : List Nat} {g c : Nat} {vk : Value} {w : World} (h : KSt B ks ps vk (.slice (some ⟨g, 0, none⟩) ks.length c) w) {i b : Nat} (hi : ps[i]? = some b) :
    w.cell? ⟨g, i, none⟩ = some (.pointer (some ⟨b, 0, none⟩)) := by
  have hlt := (List.getElem?_eq_some_iff.1 hi).1
  rw [h.ptrs.cellAt i (by have := h.len; omega)]
  simp [hi, ptr]

/-- The cells behind a slice of MessageIDs. -/
def IdsAt (w : World) (B : Nat) (p : Option Addr) (n : Nat) (f : Nat → Int × Int) : Prop :=
  ∀ i, i < n → KWf (f i) ∧ ∃ b off, p = some ⟨b, off, none⟩ ∧ b < B ∧ w.cell? ⟨b, off + i * 2, none⟩ = some (.int .i64 (f i).1) ∧ w.cell? ⟨b, off + i * 2 + 1, none⟩ = some (.int .u64 (f i).2)

theorem IdsAt.kept {w w' : World} {B B' : Nat} {p : Option Addr} {n : Nat} {f : Nat → Int × Int} (h : IdsAt w B p n f) (hb : Below B w w') (hB : B ≤ B') : IdsAt w' B' p n f := fun i hi => by
  obtain ⟨hw, b, off, e, h1, h2, h3⟩ := h i hi
  exact ⟨hw, b, off, e, by omega, (hb.cell (p := ⟨b, off + i * 2, none⟩) h1).trans h2, (hb.cell (p := ⟨b, off + i * 2 + 1, none⟩) h1).trans h3⟩

/-- The law's arguments in memory. -/
structure ArgsC (w : World) (pp : Option Addr) (np : Nat) (qp : Nat → Option Addr) (ql qc : Nat → Nat) (qf : Nat → Nat → Int) (pl : Option Addr) (nl : Nat) (xs : List Int)
    (pi : Option Addr) (ni : Nat) (fi : Nat → Int × Int) (pk : Option Addr) (nk : Nat) (fk : Nat → Int × Int) : Prop where
  prev : ∀ i, i < np → ∃ b off, pp = some ⟨b, off, none⟩ ∧ b < w.heap.size ∧ w.cell? ⟨b, off + i, none⟩ = some (.slice (qp i) (ql i) (qc i))
  rows : ∀ i, i < np → IntsAt w w.heap.size (qp i) (ql i) (qf i)
  len : xs.length = nl
  loss : IntsAt w w.heap.size pl nl (fun i => xs.getD i 0)
  init : IdsAt w w.heap.size pi ni fi
  copies : IdsAt w w.heap.size pk nk fk

/-- slices.Clone at whatever slice of ints. -/
theorem clone_ints {B : Nat} (p : Option Addr) (n cap : Nat) (f : Nat → Int) (w : World) (hn : n ≤ 1048576) (h : IntsAt w B p n f) :
    Calls Yba.prog 12 #[.slice p n cap] w fun e w' => ∃ pv cv, e = .returned (.slice pv n cv) ∧ w'.ownsRow w.heap.size 3 1 (.slice pv n cv) n ((List.range n).map fun i => .int .i64 (f i)) ∧ Below w.heap.size w w' := by
  cases p with
  | none =>
    have hn0 : n = 0 := by
      cases n with
      | zero => rfl
      | succ n => obtain ⟨b, off, e, _⟩ := h 0 (by omega); cases e
    subst hn0
    refine (Yba.slices_Clone_int_nil 0 cap w).mono ?_
    rintro e w' ⟨rfl, rfl⟩
    exact ⟨none, 0, rfl, ⟨rfl, .inl ⟨rfl, rfl⟩⟩, Below.refl _ _⟩
  | some a =>
    by_cases hn0 : n = 0
    · subst hn0
      refine (Yba.slices_Clone_int_zero a cap w).mono ?_
      rintro e w' ⟨v', rfl, hrow, _, hb⟩
      obtain ⟨pv, cv, rfl⟩ := ownsRow_form hrow
      exact ⟨pv, cv, rfl, hrow, hb⟩
    · obtain ⟨b, off, e, _⟩ := h 0 (by omega)
      cases e
      refine (Yba.slices_Clone_int b off n cap ((List.range n).map f) w (by simp) (by omega) (fun j hj => ?_)).mono ?_
      · simp at hj
        obtain ⟨b', off', e, _, hc⟩ := h j hj
        cases e
        rw [hc]
        simp [hj]
      · rintro e w' ⟨v', rfl, hrow, _, hb⟩
        obtain ⟨pv, cv, rfl⟩ := ownsRow_form hrow
        refine ⟨pv, cv, rfl, ?_, hb⟩
        rw [List.take_of_length_le (by simp), List.map_map] at hrow
        exact hrow

theorem ownsRow_ints {w : World} {B : Nat} {pv : Option Addr} {n cv : Nat} {f : Nat → Int} (h : w.ownsRow B 3 1 (.slice pv n cv) n ((List.range n).map fun i => .int .i64 (f i))) : IntsAt w w.heap.size pv n f := fun i hi => by
  obtain ⟨g, cap, e⟩ := owned_form h (by omega)
  cases e
  obtain ⟨cur, hc⟩ := ownsRow_block h (g := g) rfl
  refine ⟨g, 0, rfl, (Array.getElem?_eq_some_iff.1 hc).1, ?_⟩
  rw [Nat.zero_add, h.cellAt i (by omega)]
  simp [hi]

/-- What prev holds at i, as the law reads it. -/
def lenAt (np : Nat) (ql : Nat → Nat) (i : Nat) : Nat := if i < np then ql i else 0

/-- The heard rows, the first k of them laid. -/
structure Heard (B G sz np : Nat) (ql : Nat → Nat) (qf : Nat → Nat → Int) (k : Nat) (hv : Nat → Value) (w : World) : Prop where
  row : w.rowIs G 55 sz hv
  done : ∀ i, i < k → ∃ pv cv, hv i = .slice pv (ql i) cv ∧ w.ownsRow B 3 1 (.slice pv (ql i) cv) (ql i) ((List.range (ql i)).map fun j => .int .i64 (qf i j))
  rest : ∀ i, k ≤ i → hv i = .slice none 0 0

theorem Heard.kept {B G sz np : Nat} {ql : Nat → Nat} {qf : Nat → Nat → Int} {k : Nat} {hv : Nat → Value} {w w' : World} (h : Heard B G sz np ql qf k hv w) (hb : ∀ (b : Nat) (cs : Array Value) (t : TypeId), w.heap[b]? = some (Obj.cells cs t (0, 0)) → (t = 3 ∨ b = G) → w'.heap[b]? = w.heap[b]?) : Heard B G sz np ql qf k hv w' := by
  refine ⟨?_, fun i hi => ?_, h.rest⟩
  · obtain ⟨cur, e, _⟩ := h.row
    exact h.row.of_block (hb _ _ _ e (.inr rfl))
  · obtain ⟨pv, cv, e, hr⟩ := h.done i hi
    refine ⟨pv, cv, e, ownsRow_of_block hr fun g hg => ?_⟩
    obtain ⟨cur, e⟩ := ownsRow_block hr hg
    exact hb _ _ _ e (.inl rfl)

theorem Heard.step {B G sz np : Nat} {ql : Nat → Nat} {qf : Nat → Nat → Int} {k : Nat} {hv : Nat → Value} {w w' : World} {pv : Option Addr} {cv : Nat} (h : Heard B G sz np ql qf k hv w) (hB : B ≤ w.heap.size) (hb : Below w.heap.size w w')
    (hr : w'.ownsRow w.heap.size 3 1 (.slice pv (ql k) cv) (ql k) ((List.range (ql k)).map fun j => .int .i64 (qf k j))) :
    Heard B G sz np ql qf (k + 1) (fun i => if i = k then .slice pv (ql k) cv else hv i) (w'.setCell ⟨G, k, none⟩ (.slice pv (ql k) cv)) := by
  have hrow := h.row.of_block (hb.block _ h.row.lt)
  have fr : ∀ (b : Nat) (cs : Array Value), w'.heap[b]? = some (Obj.cells cs 3 (0, 0)) → (w'.setCell ⟨G, k, none⟩ (.slice pv (ql k) cv)).heap[b]? = w'.heap[b]? := fun b cs e =>
    Below.heap_setCell w' ⟨G, k, none⟩ _ b (fun e1 => rowIs_ne_cells hrow e (by decide) e1.symm)
  refine ⟨hrow.set k _, fun i hi => ?_, fun i hi => by rw [if_neg (by omega)]; exact h.rest i (by omega)⟩
  by_cases e : i = k
  · subst e
    refine ⟨pv, cv, by simp, ownsRow_base_a (ownsRow_of_block hr fun g hg => ?_) hB⟩
    obtain ⟨cur, e⟩ := ownsRow_block hr hg
    exact fr g cur e
  · obtain ⟨pv', cv', e1, hr1⟩ := h.done i (by omega)
    refine ⟨pv', cv', by simp [e, e1], ownsRow_of_block hr1 fun g hg => ?_⟩
    obtain ⟨cur, e⟩ := ownsRow_block hr1 hg
    have e2 := hb.block g (Array.getElem?_eq_some_iff.1 e).1
    exact (fr g cur (e2.trans e)).trans e2

theorem run_make66 (n : Nat) (h : n ≤ 4096) (w : World) : (Instr.makeSlice 66 (.int .i64 (n : Int)) (.int .i64 (n : Int))).run Yba.prog w = .ok (.slice (some ⟨w.heap.size, 0, none⟩) n n) (w.alloc (.cells (madeCells #[.slice none 0 0] n) 55)) :=
  run_make_row' 66 55 (.slice none 0 0) 24 Yba.underlying66 (by kernel_rfl) rfl .i64 .i64 n (by omega) (by omega) w
theorem run_make69 (n : Nat) (h : n ≤ 4096) (w : World) : (Instr.makeSlice 69 (.int .i64 (n : Int)) (.int .i64 (n : Int))).run Yba.prog w = .ok (.slice (some ⟨w.heap.size, 0, none⟩) n n) (w.alloc (.cells (madeCells #[.pointer none] n) 73)) :=
  run_make_row' 69 73 (.pointer none) 8 Yba.underlying69 (by kernel_rfl) rfl .i64 .i64 n (by omega) (by omega) w
end Go.Proofs.Ybulkdsyu
