import Derived.Test.YbulkdswcDoorU4
import Derived.Shelf.Spec.SlicesInsertGrow
namespace Go.Proofs.YbulkdswcDoor
open Go Ieee Go.RowKit Go.Sort Go.Shelf Go.Lib

/-! ### Cells set in a row of one's own -/
theorem setCells_block {b e : Nat} {fz : Nat × Nat} : ∀ (vs : List Value) (o : Nat) (w : World) (cur : Array Value), w.heap[b]? = some (.cells cur e fz) → ∃ cur', (w.setCells b o vs).heap[b]? = some (.cells cur' e fz) ∧ cur'.size = cur.size
  | [], _, _, cur, h => ⟨cur, h, rfl⟩
  | v :: r, o, w, cur, h => by
    have h1 : (w.setCell ⟨b, o, none⟩ v).heap[b]? = some (.cells (cur.setIfInBounds o v) e fz) := by
      simp [World.setCell, Array.getElem?_modify, h]
    obtain ⟨c2, h2, h3⟩ := setCells_block r (o + 1) _ _ h1
    exact ⟨c2, h2, by rw [h3]; simp⟩

theorem below_setCells {B b : Nat} {a : World} (hb : B ≤ b) : ∀ (vs : List Value) (o : Nat) (w : World), Below B a w → Below B a (w.setCells b o vs)
  | [], _, _, h => h
  | v :: r, o, w, h => below_setCells hb r (o + 1) _ ⟨h.os, h.tape, h.output, by simp [World.setCell]; exact h.size, fun k hk => by
      rw [← h.block k hk]; simp [World.setCell, Array.getElem?_modify, show ¬ b = k by omega]⟩

theorem own_of {w : World} {B ety g n cap : Nat} {cur : Array Value} {xs : List Value} (hlo : B ≤ g) (hg : w.heap[g]? = some (.cells cur ety (0, 0))) (h1 : n ≤ cap) (h2 : cap ≤ maxLen) (h3 : cur.size = cap) (hl : xs.length = n)
    (hc : ∀ j, j < n → w.cell? ⟨g, j, none⟩ = xs[j]?) : w.ownsRow B ety 1 (.slice (some ⟨g, 0, none⟩) n cap) n xs := by
  refine ⟨by omega, .inr ⟨g, cap, cur, rfl, hlo, hg, h1, h2, by omega, ?_⟩⟩
  rw [Nat.mul_one]
  refine List.ext_getElem? fun j => ?_
  by_cases hj : j < n
  · rw [List.getElem?_take_of_lt hj, ← hc j hj]
    simp [World.cell?, hg]
  · rw [List.getElem?_eq_none (by rw [List.length_take]; omega), List.getElem?_eq_none (by omega)]

/-- x at place i. -/
def insL (l : List Nat) (i x : Nat) : List Nat := l.take i ++ x :: l.drop i
theorem insL_len {l : List Nat} {i x : Nat} (hi : i ≤ l.length) : (insL l i x).length = l.length + 1 := by
  unfold insL; rw [List.length_append, List.length_take, List.length_cons, List.length_drop]; omega
theorem insL_get {l : List Nat} {i x j : Nat} (hi : i ≤ l.length) : (insL l i x)[j]? = if j < i then l[j]? else if j = i then some x else l[j - 1]? := by
  unfold insL
  have hl : (l.take i).length = i := by rw [List.length_take]; omega
  split
  · rename_i h
    rw [List.getElem?_append_left (by omega), List.getElem?_take_of_lt h]
  · rename_i h
    rw [List.getElem?_append_right (by omega), hl]
    split
    · rename_i h2
      rw [h2, Nat.sub_self]; rfl
    · rename_i h2
      rw [show j - i = (j - i - 1) + 1 by omega, List.getElem?_cons_succ, List.getElem?_drop]
      congr 1
      omega

theorem size23 : (Ybad.prog.info? 23).map (·.size) = some 1 := by kernel_rfl
theorem sizeOf23 (w : World) : (Go.sizeOf 23).run Ybad.prog w = .ok 1 w := by kernel_rfl

theorem overlaps_apart {w : World} {b o vb voff m vc lb cb : Nat} (hvb : vb ≠ b) (tA tB : TypeId) (kA kB : Nat) (hsa : w.shape? vb = some (tA, kA)) (hsb : w.shape? b = some (tB, kB)) (hkB : kB ≠ 0) (hfa : w.frozen? ⟨vb, voff, none⟩ = false) (hfe : w.frozen? ⟨vb, kA, none⟩ = false) :
    (callFunc 44 #[.slice (some ⟨vb, voff, none⟩) m vc, .slice (some ⟨b, o, none⟩) lb cb]).run Ybad.prog w = .ok (.value (.bool false)) w := by
  rw [run_callFunc_extern Ybad.func44 (by kernel_rfl) (by kernel_rfl) (by kernel_rfl) (e := Extern.SlicesOverlaps.overlaps #[24, 24] #[4]) (by kernel_rfl),
    Lib.run_overlaps_apart w 24 4 23 Ybad.underlying24 1 sizeOf23 ⟨vb, voff, none⟩ ⟨b, o, none⟩ m vc lb cb hvb tA tB kA kB hsa hsb hkB hfa hfe]
  rfl

set_option maxHeartbeats 4000000 in
set_option maxRecDepth 100000 in
/-- There is room. -/
theorem ins_room {b off n c i vb voff m vc : Nat} {cs vs : List Value} {w : World} (hi : i < n) (hm : 0 < m) (hroom : n + m ≤ c) (hc63 : c ≤ 9223372036854775807) (hvb : vb ≠ b)
    (hcl : cs.length = n) (hvl : vs.length = m)
    (hcs : ∀ j v, cs[j]? = some v → w.cell? ⟨b, off + j, none⟩ = some v) (hsp : ∀ j, j < n + m → (w.cell? ⟨b, off + j, none⟩).isSome = true) (hfz : ∀ j, j < n + m → w.frozen? ⟨b, off + j, none⟩ = false)
    (hvs : ∀ j v, vs[j]? = some v → w.cell? ⟨vb, voff + j, none⟩ = some v) (h1c : ∀ v ∈ cs, v.oneCell' = true) (h1v : ∀ v ∈ vs, v.oneCell' = true)
    (tA tB : TypeId) (kA kB : Nat) (hsa : w.shape? vb = some (tA, kA)) (hsb : w.shape? b = some (tB, kB)) (hkB : kB ≠ 0) (hfa : w.frozen? ⟨vb, voff, none⟩ = false) (hfe : w.frozen? ⟨vb, kA, none⟩ = false) :
    Calls Ybad.prog 27 #[.slice (some ⟨b, off, none⟩) n c, .int .i64 i, .slice (some ⟨vb, voff, none⟩) m vc] w fun e w' =>
      e = .returned (.slice (some ⟨b, off, none⟩) (n + m) c) ∧ w' = (w.drew.setCells b (off + (i + m)) (cs.drop i)).setCells b (off + i) vs := by
  have hov : ∀ lb cb, (callFunc 44 #[.slice (some ⟨vb, voff, none⟩) m vc, .slice (some ⟨b, off + (i + m), none⟩) lb cb]).run Ybad.prog w = .ok (.value (.bool false)) w := fun lb cb => overlaps_apart hvb tA tB kA kB hsa hsb hkB hfa hfe
  have hz1 : ¬ ((m : Int) = 0) := by omega
  have hz2 : ¬ ((i : Int) = (n : Int)) := by omega
  have hdl : (cs.drop i).length = n - i := by rw [List.length_drop, hcl]
  have hw1 : IntKind.i64.wrap ((i : Int) + (m : Int)) = (i : Int) + (m : Int) := by rw [IntKind.wrap_i64]; omega
  have hb1 : (0 : Int) ≤ (i : Int) + (m : Int) := by omega
  have hin : i ≤ n := by omega
  have htn : ((i : Int) + (m : Int)).toNat = i + m := by omega
  have hb2 : ¬ (c = i + m) := by omega
  have hb3 : (i : Int) ≤ (n : Int) + (m : Int) := by omega
  have hb4 : ¬ (c = i) := by omega
  have hcp1 : ∀ ty dc sc, (Builtin.copy_ #[24, 24] ty #[.slice (some ⟨b, off + (i + m), none⟩) (n + m - (i + m)) dc, .slice (some ⟨b, off + i, none⟩) (n + m - i) sc]).run Ybad.prog w.drew = .ok (goInt (cs.drop i).length) (w.drew.setCells b (off + (i + m)) (cs.drop i)) := fun ty dc sc =>
    run_copy_cells w.drew _ _ ty 23 b (off + (i + m)) (n + m - (i + m)) dc ⟨b, off + i, none⟩ (n + m - i) sc (cs.drop i) Ybad.underlying24 size23 (by rw [hdl]; simp only [Nat.min_def]; split <;> omega)
      (fun j v hj => by rw [Addr.add_lit, Nat.add_assoc]; exact hcs (i + j) v (by rwa [List.getElem?_drop] at hj))
      (fun j hj => by rw [Nat.add_assoc]; exact hsp _ (by omega)) (fun j hj => by rw [Nat.add_assoc]; exact hfz _ (by omega)) (fun v hv => h1c v (List.mem_of_mem_drop hv))
  obtain ⟨W1, hW1⟩ : ∃ W1, W1 = w.drew.setCells b (off + (i + m)) (cs.drop i) := ⟨_, rfl⟩
  have hsp1 : ∀ k, k < n + m → (W1.cell? ⟨b, off + k, none⟩).isSome = true := fun k hk => by
    rw [hW1]
    exact isSome_setCells b _ _ _ (fun j hj => by rw [Nat.add_assoc]; exact hsp _ (by omega)) _ (hsp k hk)
  have hcp2 : ∀ (W : World), (∀ x, W.cell? x = W1.cell? x) → (∀ x, W.frozen? x = W1.frozen? x) → ∀ ty dc, (Builtin.copy_ #[24, 24] ty #[.slice (some ⟨b, off + i, none⟩) (n + m - i) dc, .slice (some ⟨vb, voff, none⟩) m vc]).run Ybad.prog W = .ok (goInt vs.length) (W.setCells b (off + i) vs) := fun W hWc hWf ty dc =>
    run_copy_cells W _ _ ty 23 b (off + i) (n + m - i) dc ⟨vb, voff, none⟩ m vc vs Ybad.underlying24 size23 (by rw [hvl]; simp only [Nat.min_def]; split <;> omega)
      (fun j v hj => by
        rw [Addr.add_lit, hWc, hW1, World.cell?_setCells_out b _ _ _ _ (fun h _ => absurd h hvb)]
        exact hvs j v hj)
      (fun j hj => by rw [hWc, Nat.add_assoc]; exact hsp1 _ (by omega)) (fun j hj => by rw [hWf, hW1, World.frozen?_setCells, Nat.add_assoc]; exact hfz _ (by omega)) h1v
  rw [← hW1] at hcp1
  have HW1 := (show Hid _ from hW1)
  clear hcs hsp hfz hvs h1c h1v hsa hsb hfa hfe hsp1 hdl hcl hvl hkB hW1
  have mixed : Ybad.prog.follows .mixedOrders = true := by kernel_rfl
  go_enter Ybad.func27, Ybad.ntmps27
  go_wp2_with (simp only [hov])
  go_region_law_o (refine step_copy_runI rfl _ _ 24 24 rfl _ _ (by simp [Act.eval, Act.put]) (by simp [Act.eval, Act.put]) (hcp1 _ _ _) ?_)
  go_wp2_with (at_builtin; refine wpList_copy_runI _ rfl _ _ 24 24 rfl _ _ rfl rfl (hcp2 _ (fun _ => rfl) (fun _ => rfl) _ _) ?_)
  go_ret
  exact ⟨rfl, by rw [HW1.out]⟩

set_option maxHeartbeats 4000000 in
set_option maxRecDepth 100000 in
/-- There is no room. -/
theorem ins_grow {b off n c i vb voff m vc : Nat} {cs vs : List Value} {w : World} (hi : i < n) (hm : 0 < m) (hnc : n ≤ c) (hroom : c < n + m) (hbig : (n + m) * 8 ≤ 140737488355328)
    (hcl : cs.length = n) (hvl : vs.length = m)
    (hcs : ∀ j v, cs[j]? = some v → w.cell? ⟨b, off + j, none⟩ = some v)
    (hvs : ∀ j v, vs[j]? = some v → w.cell? ⟨vb, voff + j, none⟩ = some v) (h1c : ∀ v ∈ cs, v.oneCell' = true) (h1v : ∀ v ∈ vs, v.oneCell' = true) :
    Calls Ybad.prog 27 #[.slice (some ⟨b, off, none⟩) n c, .int .i64 i, .slice (some ⟨vb, voff, none⟩) m vc] w fun e w' =>
      ∃ (G : Nat) (ROW : Array Value), e = .returned (.slice (some ⟨w.heap.size, 0, none⟩) (n + m) G) ∧ n + m ≤ G ∧ G ≤ maxLen ∧ ROW.size = G ∧ (∀ j v, j < i → cs[j]? = some v → ROW[j]? = some v) ∧
      w' = (((w.alloc (.cells ROW 23)).drew.setCells w.heap.size i vs).drew).setCells w.heap.size (i + m) (cs.drop i) := by
  obtain ⟨i0, hi0, hz0, hzs, hzb⟩ := info_parts info23
  have hz1 : ¬ ((m : Int) = 0) := by omega
  have hz2 : ¬ ((i : Int) = (n : Int)) := by omega
  have hz3 : (c : Int) < (n : Int) + (m : Int) := by omega
  have hbw : b < w.heap.size := block_lt_of_cell (hcs 0 _ (List.getElem?_eq_getElem (by omega)))
  have hvw : vb < w.heap.size := block_lt_of_cell (hvs 0 _ (List.getElem?_eq_getElem (by omega)))
  have hkk : (n : Int) + (m : Int) - (i : Int) = ((n + m - i : Nat) : Int) := by omega
  have hik : i + (n + m - i) = n + m := by omega
  have hold : (Builtin.firstCells i0.size i (.slice (some ⟨b, off, none⟩) i c)).run Ybad.prog w.drew = .ok (cs.take i).toArray w.drew := by
    rw [hzs]
    exact run_firstCells_some w.drew 1 i ⟨b, off, none⟩ i c (cs.take i) (by rw [List.length_take]; omega) (fun j v hj => by
      rw [Addr.add_lit]
      rw [List.getElem?_take] at hj
      split at hj
      · exact hcs j v hj
      · cases hj)
  have hrz : ∀ ty, (Builtin.append_ #[24, 3] ty #[.slice (some ⟨b, off, none⟩) i c, .int .i64 ((n : Int) + (m : Int) - (i : Int))]).run Ybad.prog w =
      .ok (.slice (some ⟨w.heap.size, 0, none⟩) (n + m) (grownCap w (n + m) c 23)) (w.drew.alloc (.cells ((cs.take i).toArray ++ Builtin.zeroCells (Value.float .f64 0).cells (n + m - i) ++ Builtin.zeroCells (Value.float .f64 0).cells (grownCap w (n + m) c 23 - (n + m))) 23)) := fun ty => by
    have h := Lib.run_append_grow_zeros w 24 3 ty 23 i0 _ .i64 .i64 Ybad.underlying24 Ybad.underlying3 hi0 hz0 (some ⟨b, off, none⟩) i c (cs.take i) hold (n + m - i) (by omega) (by omega) (by omega) (by omega) (by rw [hzb]; omega) (by rw [hzb, hik]; exact growslice_fits hroom hbig)
    rw [hik] at h
    rw [hkk]
    exact h
  have HG1 : Hid (n + m ≤ grownCap w (n + m) c 23) := grownCap_ge w _ _ _
  have HG2 : Hid (grownCap w (n + m) c 23 ≤ maxLen) := grownCap_le_maxLen w (n + m) c 23 (by unfold maxLen; omega)
  generalize grownCap w (n + m) c 23 = G at *
  have HR1 : Hid (((cs.take i).toArray ++ Builtin.zeroCells (Value.float .f64 0).cells (n + m - i) ++ Builtin.zeroCells (Value.float .f64 0).cells (G - (n + m))).size = G) := by
    show _ = _
    have := HG1.out
    simp [Builtin.zeroCells, Value.cells]
    omega
  have HR2 : Hid (∀ j v, j < i → cs[j]? = some v → ((cs.take i).toArray ++ Builtin.zeroCells (Value.float .f64 0).cells (n + m - i) ++ Builtin.zeroCells (Value.float .f64 0).cells (G - (n + m)))[j]? = some v) := fun j v hj hv => by
    have hl : (cs.take i).length = i := by rw [List.length_take]; omega
    rw [Array.getElem?_append_left (by simp; omega), Array.getElem?_append_left (by simp; omega)]
    simp [hj, hv]
  generalize (cs.take i).toArray ++ Builtin.zeroCells (Value.float .f64 0).cells (n + m - i) ++ Builtin.zeroCells (Value.float .f64 0).cells (G - (n + m)) = ROW at *
  have hRl : n + m ≤ ROW.size := by have h1 := HR1.out; have h2 := HG1.out; omega
  obtain ⟨W1, hW1⟩ : ∃ W1, W1 = w.drew.alloc (.cells ROW 23) := ⟨_, rfl⟩
  rw [← hW1] at hrz
  have hN : ∀ j, j < n + m → (W1.cell? ⟨w.heap.size, j, none⟩).isSome = true := fun j hj => by
    rw [hW1, World.cell?_alloc_at (w := w.drew) ROW _ w.heap.size j rfl, Array.getElem?_eq_getElem (by omega)]; rfl
  have hNf : ∀ j, W1.frozen? ⟨w.heap.size, j, none⟩ = false := fun j => by rw [hW1]; exact World.frozen?_alloc_at (w := w.drew) ROW _ w.heap.size j rfl
  have hOb : ∀ j v, w.cell? ⟨b, j, none⟩ = some v → W1.cell? ⟨b, j, none⟩ = some v := fun j v h => by rw [hW1, World.cell?_alloc_past (w := w.drew) _ b j hbw]; exact h
  have hOv : ∀ j v, w.cell? ⟨vb, j, none⟩ = some v → W1.cell? ⟨vb, j, none⟩ = some v := fun j v h => by rw [hW1, World.cell?_alloc_past (w := w.drew) _ vb j hvw]; exact h
  have hcpA : ∀ (W : World), (∀ x, W.cell? x = W1.cell? x) → (∀ x, W.frozen? x = W1.frozen? x) → ∀ ty dc, (Builtin.copy_ #[24, 24] ty #[.slice (some ⟨w.heap.size, i, none⟩) (n + m - i) dc, .slice (some ⟨vb, voff, none⟩) m vc]).run Ybad.prog W = .ok (goInt vs.length) (W.setCells w.heap.size i vs) := fun W hWc hWf ty dc =>
    run_copy_cells W _ _ ty 23 w.heap.size i (n + m - i) dc ⟨vb, voff, none⟩ m vc vs Ybad.underlying24 size23 (by rw [hvl]; simp only [Nat.min_def]; split <;> omega)
      (fun j v hj => by rw [Addr.add_lit, hWc]; exact hOv _ v (hvs j v hj))
      (fun j hj => by rw [hWc]; exact hN _ (by omega)) (fun j hj => by rw [hWf]; exact hNf _) h1v
  have hG63 : G ≤ 9223372036854775807 := by have := HG2.out; unfold maxLen at this; omega
  have hGn : n + m ≤ G := HG1.out
  have hGi : ¬ (G = i) := by omega
  have hGim : ¬ (G = i + m) := by omega
  have hci : ¬ (c = i) := by omega
  have hbN : b ≠ w.heap.size := by omega
  have hdl : (cs.drop i).length = n - i := by rw [List.length_drop, hcl]
  have hcpB : ∀ (W : World), (∀ x, W.cell? x = (W1.setCells w.heap.size i vs).cell? x) → (∀ x, W.frozen? x = (W1.setCells w.heap.size i vs).frozen? x) → ∀ ty dc sc, (Builtin.copy_ #[24, 24] ty #[.slice (some ⟨w.heap.size, i + m, none⟩) (n + m - (i + m)) dc, .slice (some ⟨b, off + i, none⟩) (n - i) sc]).run Ybad.prog W = .ok (goInt (cs.drop i).length) (W.setCells w.heap.size (i + m) (cs.drop i)) := fun W hWc hWf ty dc sc =>
    run_copy_cells W _ _ ty 23 w.heap.size (i + m) (n + m - (i + m)) dc ⟨b, off + i, none⟩ (n - i) sc (cs.drop i) Ybad.underlying24 size23 (by rw [hdl]; simp only [Nat.min_def]; split <;> omega)
      (fun j v hj => by
        rw [Addr.add_lit, hWc, World.cell?_setCells_out _ _ _ _ _ (fun h _ => absurd h hbN), Nat.add_assoc]
        exact hOb _ v (hcs (i + j) v (by rwa [List.getElem?_drop] at hj)))
      (fun j hj => by rw [hWc]; exact isSome_setCells _ _ _ _ (fun t ht => hN _ (by omega)) _ (hN _ (by omega)))
      (fun j hj => by rw [hWf, World.frozen?_setCells]; exact hNf _) (fun v hv => h1c v (List.mem_of_mem_drop hv))
  subst hW1
  have hE1 : ∀ x, ((w.alloc (.cells ROW 23)).drew).cell? x = (w.drew.alloc (.cells ROW 23)).cell? x := fun x => rfl
  have hE2 : ∀ x, ((w.alloc (.cells ROW 23)).drew).frozen? x = (w.drew.alloc (.cells ROW 23)).frozen? x := fun x => rfl
  have hF1 : ∀ x, (((w.alloc (.cells ROW 23)).drew.setCells w.heap.size i vs).drew).cell? x = ((w.drew.alloc (.cells ROW 23)).setCells w.heap.size i vs).cell? x := fun x => rfl
  have hF2 : ∀ x, (((w.alloc (.cells ROW 23)).drew.setCells w.heap.size i vs).drew).frozen? x = ((w.drew.alloc (.cells ROW 23)).setCells w.heap.size i vs).frozen? x := fun x => rfl
  have hw1 : IntKind.i64.wrap ((i : Int) + (m : Int)) = (i : Int) + (m : Int) := by rw [IntKind.wrap_i64]; omega
  have hb1 : (0 : Int) ≤ (i : Int) + (m : Int) := by omega
  have hin : i ≤ n := by omega
  have htn : ((i : Int) + (m : Int)).toNat = i + m := by omega
  have hb3 : (i : Int) ≤ (n : Int) := by omega
  clear hkk hik hold hRl hN hNf hOb hOv hcs hvs h1c h1v hi0 hz0 hzs hzb hdl hcl hvl hbN
  have mixed : Ybad.prog.follows .mixedOrders = true := by kernel_rfl
  go_enter Ybad.func27, Ybad.ntmps27
  go_wp2_with (first
    | (at_builtin; refine Lib.wpList_append_run _ rfl _ _ _ _ rfl _ _ rfl rfl _ _ (hrz _) ?_)
    | (at_builtin; refine wpList_copy_runI _ rfl _ _ 24 24 rfl _ _ rfl rfl (hcpA _ hE1 hE2 _ _) ?_)
    | (at_builtin; refine wpList_copy_runI _ rfl _ _ 24 24 rfl _ _ rfl rfl (hcpB _ (fun _ => rfl) (fun _ => rfl) _ _ _) ?_))
  go_region_law_o (refine step_copy_runI rfl _ _ 24 24 rfl (.slice (some ⟨w.heap.size, i + m, none⟩) (n + m - (i + m)) (G - (i + m))) (.slice (some ⟨b, off + i, none⟩) (n - i) (c - i)) (by simp [Act.eval, Act.put]) (by simp [Act.eval, Act.put]) (hcpB _ hF1 hF2 3 (G - (i + m)) (c - i)) ?_)
  go_wp2
  go_ret
  exact ⟨G, ROW, rfl, HG1.out, HG2.out, HR1.out, HR2.out, rfl⟩

set_option maxHeartbeats 4000000 in
set_option maxRecDepth 100000 in
/-- slices.Insert of one float at a row of one's own. -/
theorem insert_f {w wr : World} {l : List Nat} {p : Option Addr} {n c : Nat} (h : KF w l p n c wr) (hn0 : 0 < n) (hn : n ≤ 9000) {i x : Nat} (hi : i ≤ n) :
    Calls Ybad.prog 27 #[.slice p n c, .int .i64 i, .slice (some ⟨wr.heap.size, 0, none⟩) 1 1] (wr.alloc (.cells #[.float .f64 x] 23)) fun e w' => ∃ g c2, e = .returned (.slice (some ⟨g, 0, none⟩) (n + 1) c2) ∧ KF w (insL l i x) (some ⟨g, 0, none⟩) (n + 1) c2 w' := by
  have hll := h.len
  rcases Nat.lt_or_ge i n with hlt | hge
  · rcases id h.row.2 with ⟨_, e⟩ | ⟨g, cap, cur, e, hlo, hg, h1, h2, h3, h4⟩
    · omega
    · cases e
      have hgs : g < wr.heap.size := (Array.getElem?_eq_some_iff.1 hg).1
      have hbW : Below w.heap.size w (wr.alloc (.cells #[.float .f64 x] 23)) := h.below.alloc h.below.size _
      have hgW : (wr.alloc (.cells #[.float .f64 x] 23)).heap[g]? = some (.cells cur 23 (0, 0)) := by
        rw [← hg]; unfold World.alloc; rw [Array.getElem?_push_lt hgs, Array.getElem?_eq_getElem hgs]
      have hnW : (wr.alloc (.cells #[.float .f64 x] 23)).heap[wr.heap.size]? = some (.cells #[.float .f64 x] 23 (0, 0)) := by unfold World.alloc; simp
      have hsW : (wr.alloc (.cells #[.float .f64 x] 23)).heap.size = wr.heap.size + 1 := by unfold World.alloc; simp
      generalize wr.alloc (.cells #[.float .f64 x] 23) = W at *
      rw [Nat.mul_one] at h3 h4
      have hcg : ∀ j, W.cell? ⟨g, j, none⟩ = cur[j]? := fun j => by simp [World.cell?, hgW]
      have hcs : ∀ j v, (l.map encF)[j]? = some v → W.cell? ⟨g, 0 + j, none⟩ = some v := fun j v hv => by
        rw [Nat.zero_add, hcg, ← hv, ← h4, List.getElem?_take_of_lt (by have := (List.getElem?_eq_some_iff.1 hv).1; simp at this; omega)]
        simp
      have hvs : ∀ j v, [Value.float .f64 x][j]? = some v → W.cell? ⟨wr.heap.size, 0 + j, none⟩ = some v := fun j v hv => by
        cases j with
        | zero => cases hv; simp [World.cell?, hnW]
        | succ j => cases hv
      have h1c : ∀ v ∈ l.map encF, v.oneCell' = true := fun v hv => by obtain ⟨y, _, rfl⟩ := List.mem_map.1 hv; rfl
      have h1v : ∀ v ∈ [Value.float .f64 x], v.oneCell' = true := fun v hv => by rw [List.mem_singleton] at hv; subst hv; rfl
      have hdl : ((l.map encF).drop i).length = n - i := by rw [List.length_drop, List.length_map, hll]
      have hmi : ∀ j, (l.map encF)[j]? = (l[j]?).map encF := fun j => List.getElem?_map ..
      by_cases hr : n + 1 ≤ c
      · have hfz : ∀ a, a.block = g → W.frozen? a = false := fun a ha => by simp [World.frozen?, ha, hgW]
        refine (ins_room (b := g) (off := 0) (n := n) (c := c) (i := i) (vb := wr.heap.size) (voff := 0) (m := 1) (vc := 1) (cs := l.map encF) (vs := [.float .f64 x]) (w := W) hlt (by omega) hr (by unfold maxLen at h2; omega) (by omega) (by simp [hll]) rfl hcs
          (fun j hj => by rw [Nat.zero_add, hcg, Array.getElem?_eq_getElem (by omega)]; rfl) (fun j _ => hfz _ rfl) hvs h1c h1v 23 23 1 c (by simp [World.shape?, hnW]) (by simp [World.shape?, hgW, h3]) (by omega) (by simp [World.frozen?, hnW]) (by simp [World.frozen?, hnW])).mono ?_
        rintro e w' ⟨rfl, rfl⟩
        have hgd : W.drew.heap[g]? = some (.cells cur 23 (0, 0)) := hgW
        obtain ⟨c1, k1, k2⟩ := setCells_block ((l.map encF).drop i) (0 + (i + 1)) W.drew cur hgd
        obtain ⟨c2, k3, k4⟩ := setCells_block [.float .f64 x] (0 + i) _ c1 k1
        have hcd : ∀ j, W.drew.cell? ⟨g, j, none⟩ = cur[j]? := hcg
        have hin1 := World.cell?_setCells_in g ((l.map encF).drop i) (0 + (i + 1)) W.drew (fun j hj => by rw [hcd, Array.getElem?_eq_getElem (by omega)]; rfl)
        have hin2 := World.cell?_setCells_in g [.float .f64 x] (0 + i) (W.drew.setCells g (0 + (i + 1)) ((l.map encF).drop i)) (fun j hj => by
          refine isSome_setCells g _ _ _ (fun t ht => by rw [hcd, Array.getElem?_eq_getElem (by omega)]; rfl) _ ?_
          have : j < 1 := hj
          rw [hcd, Array.getElem?_eq_getElem (by omega)]; rfl)
        refine ⟨g, c, rfl, ⟨own_of hlo k3 hr h2 (by rw [k4, k2, h3]) (by rw [List.length_map, insL_len (by omega), hll]) fun j hj => ?_, by rw [insL_len (by omega), hll], below_setCells hlo _ _ _ (below_setCells hlo _ _ _ ⟨hbW.os, hbW.tape, hbW.output, hbW.size, hbW.block⟩)⟩⟩
        rw [List.getElem?_map, insL_get (by omega)]
        rcases Nat.lt_trichotomy j i with hji | hji | hji
        · rw [if_pos hji, World.cell?_setCells_out g _ _ _ _ (fun _ _ => .inl (by show j < _; omega)), World.cell?_setCells_out g _ _ _ _ (fun _ _ => .inl (by show j < _; omega)), hcd]
          have e1 : (l.map encF)[j]? = some (encF l[j]) := by rw [hmi, List.getElem?_eq_getElem (by omega)]; rfl
          have := hcs j _ e1
          rw [Nat.zero_add, hcg] at this
          rw [this, List.getElem?_eq_getElem (by omega)]; rfl
        · rw [if_neg (by omega), if_pos hji]
          have := hin2 0 (by simp)
          subst hji
          simp only [Nat.add_zero, Nat.zero_add] at this ⊢
          rw [this]; rfl
        · rw [if_neg (by omega), if_neg (by omega), World.cell?_setCells_out g _ _ _ _ (fun _ _ => .inr (by show _ ≤ j; simp; omega))]
          have := hin1 (j - (i + 1)) (by omega)
          rw [show 0 + (i + 1) + (j - (i + 1)) = j by omega] at this
          rw [this, ← List.getElem?_eq_getElem, List.getElem?_drop, hmi, show i + (j - (i + 1)) = j - 1 by omega]
      · refine (ins_grow (b := g) (off := 0) (n := n) (c := c) (i := i) (vb := wr.heap.size) (voff := 0) (m := 1) (vc := 1) (cs := l.map encF) (vs := [.float .f64 x]) (w := W) hlt (by omega) h1 (by omega) (by omega) (by simp [hll]) rfl hcs hvs h1c h1v).mono ?_
        rintro e w' ⟨G, ROW, rfl, g1, g2, g3, g4, rfl⟩
        have hgd : (W.alloc (.cells ROW 23)).drew.heap[W.heap.size]? = some (.cells ROW 23 (0, 0)) := by show (W.alloc _).heap[_]? = _; unfold World.alloc; simp
        have hba : Below w.heap.size w (W.alloc (.cells ROW 23)).drew := by
          have := hbW.alloc hbW.size (.cells ROW 23)
          exact ⟨this.os, this.tape, this.output, this.size, this.block⟩
        have hle : w.heap.size ≤ W.heap.size := hbW.size
        generalize (W.alloc (.cells ROW 23)).drew = V at *
        generalize W.heap.size = N at *
        have hcd : ∀ j, V.cell? ⟨N, j, none⟩ = ROW[j]? := fun j => by simp [World.cell?, hgd]
        obtain ⟨c1, k1, k2⟩ := setCells_block [.float .f64 x] i V ROW hgd
        have k1' : (V.setCells N i [.float .f64 x]).drew.heap[N]? = some (.cells c1 23 (0, 0)) := k1
        obtain ⟨c2, k3, k4⟩ := setCells_block ((l.map encF).drop i) (i + 1) _ c1 k1'
        have hin1 := World.cell?_setCells_in N [.float .f64 x] i V (fun j hj => by
          have : j < 1 := hj
          rw [hcd, Array.getElem?_eq_getElem (by omega)]; rfl)
        have hin2 := World.cell?_setCells_in N ((l.map encF).drop i) (i + 1) (V.setCells N i [.float .f64 x]).drew (fun j hj => by
          show ((V.setCells N i [.float .f64 x]).cell? _).isSome = true
          refine isSome_setCells N _ _ _ (fun t ht => by
            have : t < 1 := ht
            rw [hcd, Array.getElem?_eq_getElem (by omega)]; rfl) _ ?_
          rw [hcd, Array.getElem?_eq_getElem (by omega)]; rfl)
        have hb2 := below_setCells (a := w) hle [.float .f64 x] i V hba
        refine ⟨N, G, rfl, ⟨own_of hle k3 g1 g2 (by rw [k4, k2, g3]) (by rw [List.length_map, insL_len (by omega), hll]) fun j hj => ?_, by rw [insL_len (by omega), hll], below_setCells hle _ _ _ ⟨hb2.os, hb2.tape, hb2.output, hb2.size, hb2.block⟩⟩⟩
        have hdr : ∀ a, (V.setCells N i [.float .f64 x]).drew.cell? a = (V.setCells N i [.float .f64 x]).cell? a := fun _ => rfl
        rw [List.getElem?_map, insL_get (by omega)]
        rcases Nat.lt_trichotomy j i with hji | hji | hji
        · rw [if_pos hji, World.cell?_setCells_out N _ _ _ _ (fun _ _ => .inl (by show j < _; omega)), hdr, World.cell?_setCells_out N _ _ _ _ (fun _ _ => .inl (by show j < _; omega)), hcd]
          rw [g4 j (encF l[j]) hji (by rw [hmi, List.getElem?_eq_getElem (by omega)]; rfl), List.getElem?_eq_getElem (by omega)]; rfl
        · rw [if_neg (by omega), if_pos hji, World.cell?_setCells_out N _ _ _ _ (fun _ _ => .inl (by show j < _; omega)), hdr]
          have := hin1 0 (by simp)
          subst hji
          rw [Nat.add_zero] at this
          rw [this]; rfl
        · rw [if_neg (by omega), if_neg (by omega)]
          have := hin2 (j - (i + 1)) (by omega)
          rw [show i + 1 + (j - (i + 1)) = j by omega] at this
          rw [this, ← List.getElem?_eq_getElem, List.getElem?_drop, hmi, show i + (j - (i + 1)) = j - 1 by omega]
  · obtain rfl : i = n := by omega
    obtain ⟨g, rfl, _⟩ := h.holds hn0
    obtain ⟨g2, c2, w2, ha, hK⟩ := h.push hn x
    have HA := (show Hid _ from ha)
    have HK : Hid (KF w (insL l i x) (some ⟨g2, 0, none⟩) (i + 1) c2 w2) := by
      have : insL l i x = l ++ [x] := by unfold insL; rw [List.take_of_length_le (by omega), List.drop_of_length_le (by omega)]
      rw [this]; exact hK
    have n1 : (i : Int) ≤ 9000 := by omega
    have n0 : (0 : Int) ≤ (i : Int) := by omega
    clear ha hK h hll hge hi
    generalize wr.alloc _ = W at *
    go_enter Ybad.func27, Ybad.ntmps27
    go_wp2_with (at_builtin; refine wpList_append_run rfl (.tmp 23) (.tmp 24) 24 rfl _ _ _ _ rfl rfl HA.out ?_)
    all_goals (go_ret; exact ⟨g2, c2, rfl, HK.out⟩)
end Go.Proofs.YbulkdswcDoor
