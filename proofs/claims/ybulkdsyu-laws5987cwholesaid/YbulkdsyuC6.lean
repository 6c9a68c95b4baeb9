import Derived.Test.YbulkdsyuC5
namespace Go.Proofs.Ybulkdsyu
open Go Go.RowKit Go.Maps Go.WideMaps Go.WideElems

/-- One copy more is laid in the map. -/
theorem Put.step {c : HC} {w W wr : World} {bm k : Nat} (hpre : Pre c w) (hp : Put c bm W k wr) (hk : k < c.N) :
    ∃ w2, (Instr.mapUpdate 70 (.map (some bm)) (.agg #[.int .i64 (c.ks.getD k (0, 0)).1, .int .u64 (c.ks.getD k (0, 0)).2]) (.pointer (some ⟨c.ps.getD k 0, 0, none⟩))).run Yba.prog wr.drew = .ok () w2 ∧ Put c bm W (k + 1) w2 := by
  obtain ⟨D, hm, hD⟩ := hp.map
  have hkl : k < c.ks.length := by rw [hpre.lks]; exact hk
  have hpl : k < c.ps.length := by rw [hpre.lps]; exact hk
  have hwf : KWf (c.ks.getD k (0, 0)) := hpre.wf _ (by simp [List.getD_eq_getElem?_getD, List.getElem?_eq_getElem hkl])
  obtain ⟨w2, hrun, hm2, hg⟩ := World.ownsMap.update (w := wr.drew) hm.drew keyed72 Yba.underlying70 (by unfold maxLen; have := hpre.lks0; have := hpre.hN; omega) (keyOf72 hwf) (ptrElem_ptr (c.ps.getD k 0))
  refine ⟨w2, hrun, ⟨hp.grown.trans (show wr.grownBy w2 (some bm) from ⟨hg.os, hg.tape, hg.output, hg.size, hg.block⟩), _, hm2, ?_⟩⟩
  have hput := hD.put (hm.tidy keyed72) (by simp [hpre.lps0, hpre.lps, hpre.lks]) (fun x hx => by
    rcases List.mem_append.1 hx with h1 | h1
    · exact hpre.wf0 x h1
    · exact hpre.wf x (List.mem_of_mem_take h1)) hwf (c.ps.getD k 0)
  have e1 : c.ks.take (k + 1) = c.ks.take k ++ [c.ks.getD k (0, 0)] := by
    rw [List.take_add_one, List.getElem?_eq_getElem hkl]; simp [List.getElem?_eq_getElem hkl]
  have e2 : c.ps.take (k + 1) = c.ps.take k ++ [c.ps.getD k 0] := by
    rw [List.take_add_one, List.getElem?_eq_getElem hpl]; simp [List.getElem?_eq_getElem hpl]
  rw [e1, e2, ← List.append_assoc, ← List.append_assoc]
  exact hput

/-- The cells that a round reads. -/
theorem Put.reads {c : HC} {w W wr : World} {pv : Option Addr} {cv bm k : Nat} (h : Mid c w pv cv (some bm) W) (hp : Put c bm W k wr) (hk : k < c.N) :
    wr.cell? ⟨c.Gc, k, none⟩ = some (.pointer (some ⟨c.ps.getD k 0, 0, none⟩)) ∧ wr.cell? ⟨c.Bc, 8, none⟩ = some (.map (some bm)) ∧
    wr.cell? ⟨c.ps.getD k 0, 0, none⟩ = some (.int .i64 (c.ks.getD k (0, 0)).1) ∧ wr.cell? ⟨c.ps.getD k 0, 3, none⟩ = some (.int .u64 (c.ks.getD k (0, 0)).2) := by
  obtain ⟨D, hm⟩ : ∃ D, W.ownsMap Yba.prog 72 ptrElem bm c.ks0.length D := by
    rcases h.map with ⟨h1, _⟩ | ⟨bm', D, e, _, hm, _⟩
    · cases h1
    · cases e; exact ⟨D, hm⟩
  have hlt : ∀ {b : Nat} {o : Obj}, W.heap[b]? = some o → b < W.heap.size := fun h => (Array.getElem?_eq_some_iff.1 h).1
  have blk : ∀ b, b < W.heap.size → b ≠ bm → wr.heap[b]? = W.heap[b]? := fun b hb hne => hp.grown.block b hb (fun e => hne (by cases e; rfl))
  have hcp := h.own.cp k hk
  have hcp' := (blk _ (hlt hcp) (cells_ne_map hcp hm)).trans hcp
  refine ⟨(h.own.gc.of_block (blk _ h.own.gc.lt (rowIs_ne_map h.own.gc hm))).cell hk, (h.ch.of_block (blk _ h.ch.lt (rowIs_ne_map h.ch hm))).cell (i := 8) (by omega), ?_, ?_⟩
  · generalize c.ps.getD k 0 = b at hcp' ⊢
    simp [World.cell?, hcp', copyCells]
  · generalize c.ps.getD k 0 = b at hcp' ⊢
    simp [World.cell?, hcp', copyCells]

theorem Put.start {c : HC} {w W : World} {pv : Option Addr} {cv bm : Nat} (h : Mid c w pv cv (some bm) W) : Put c bm W 0 W := by
  rcases h.map with ⟨h1, _⟩ | ⟨bm', D, e, _, hm, hD⟩
  · cases h1
  · cases e
    exact ⟨World.grownBy.refl _ _, D, hm, by simpa using hD⟩

set_option maxHeartbeats 4000000 in
set_option maxRecDepth 100000 in
theorem heard_at (c : HC) (w : World) (hpre : Pre c w) :
    Calls Yba.prog 14 #[.pointer (some ⟨c.Bmem, 0, none⟩), .int .i64 c.kk, .slice c.p c.n c.cap, .slice (some ⟨c.Gc, 0, none⟩) c.N c.N] w fun e w' => (∃ v, e = .returned v) ∧ ∃ pv cv bm, Post c w pv cv bm w' := by
  obtain ⟨c0, hc0⟩ : ∃ c0, c0 = c := ⟨c, rfl⟩
  have HP : Hid (Pre c0 w) := by rw [hc0]; exact hpre
  have c6 : w.cell? ⟨c.Bc, 6, none⟩ = some (.slice (some ⟨c.Gh, 0, none⟩) c.size c.size) := by rw [← hpre.h6]; exact hpre.ch.cell (by omega)
  have ck : w.cell? ⟨c.Gh, c.kk, none⟩ = some (c.hv c.kk) := hpre.row.cell hpre.hk
  have fk : w.frozen? ⟨c.Gh, c.kk, none⟩ = false := hpre.row.frozen c.kk
  have hm := hpre.m
  have hk1 : (c.kk : Int) < (c.size : Int) := by have := hpre.hk; omega
  have hk0 : (0 : Int) ≤ (c.kk : Int) := by omega
  have hk2 : (c.size : Int) ≤ 16 := by have := hpre.hsz; omega
  have hN2 : (c.N : Int) ≤ 4096 := by have := hpre.hN; omega
  have lc : c.Bc < w.heap.size := hpre.ch.lt
  have lh : c.Gh < w.heap.size := hpre.row.lt
  have cS := sorted_here c.Bc c.Gh c.kk _ _ c.p c.n c.cap c.xs w (w.alloc (.cells #[.slice c.p c.n c.cap] 55)).drew hpre.len hpre.hn hpre.ints lc lh c6 ck fk rfl rfl rfl rfl
  have MID : ∀ pv cv w', Hid (Sorted1 w c.xs pv cv w') → Hid (Mid c0 w pv cv c0.mo (w'.setCell ⟨c.Gh, c.kk, none⟩ (.slice pv c.n cv))) := fun pv cv w' h => by subst hc0; exact Mid.start hpre h.out
  have CE : ∀ pv cv mo' W, Hid (Mid c0 w pv cv mo' W) → W.cell? ⟨c.Bc, 8, none⟩ = some (.map mo') ∧ W.frozen? ⟨c.Bc, 8, none⟩ = false ∧ c.Bc < W.heap.size := fun pv cv mo' W h => by
    subst hc0
    exact ⟨h.out.ch.cell (i := 8) (by omega), h.out.ch.frozen 8, h.out.ch.lt⟩
  have MADE : ∀ pv cv W, Hid (Mid c0 w pv cv none W) → Hid (Mid c0 w pv cv (some W.heap.size) ((W.setCell ⟨c.Bc, 8, none⟩ (.map (some W.heap.size))).alloc (.map #[] 0))) := fun pv cv W h => by
    subst hc0
    exact h.out.made
  have RD : ∀ pv cv bm W, Hid (Mid c0 w pv cv (some bm) W) → ∀ k wr, k < c.N → Put c0 bm W k wr → ∃ (s nn : Int) (b : Nat) (w2 : World), wr.cell? ⟨c.Gc, k, none⟩ = some (.pointer (some ⟨b, 0, none⟩)) ∧ wr.cell? ⟨c.Bc, 8, none⟩ = some (.map (some bm)) ∧
      wr.cell? ⟨b, 0, none⟩ = some (.int .i64 s) ∧ wr.cell? ⟨b, 3, none⟩ = some (.int .u64 nn) ∧ (Instr.mapUpdate 70 (.map (some bm)) (.agg #[.int .i64 s, .int .u64 nn]) (.pointer (some ⟨b, 0, none⟩))).run Yba.prog wr.drew = .ok () w2 ∧ Hid (Put c0 bm W (k + 1) w2) := fun pv cv bm W h k wr hk hp => by
    subst hc0
    obtain ⟨w2, hrun, hp2⟩ := Put.step hpre hp hk
    obtain ⟨r1, r2, r3, r4⟩ := Put.reads h.out hp hk
    exact ⟨_, _, _, w2, r1, r2, r3, r4, hrun, hp2⟩
  have FIN : ∀ pv cv bm W wr, Hid (Mid c0 w pv cv (some bm) W) → Put c0 bm W c.N wr → Post c w pv cv bm wr := fun pv cv bm W wr h hp => by
    subst hc0
    exact h.out.post hpre hp
  have HMO : c0.mo = c.mo := by rw [hc0]
  rw [HMO] at MID
  clear hpre HMO
  obtain ⟨Bmem, Bc, Gh, size, kk, N, Gc, hv, cf, p, n, cap, xs, ks0, ps0, ks, ps, mo⟩ := c
  simp only at *
  have HC0 : Hid (c0 = ⟨Bmem, Bc, Gh, size, kk, N, Gc, hv, cf, p, n, cap, xs, ks0, ps0, ks, ps, mo⟩) := hc0
  clear hc0
  go_enter Yba.func14, Yba.ntmps14
  go_wp2
  go_region_with (first
    | (go_at_call 20; refine (values_at _ _ _ _ _ rfl).mono ?_; rintro e w' ⟨rfl, rfl⟩)
    | (go_at_call 19; refine cS.mono ?_; rintro e w' ⟨pv, cv, rfl, d6, dk, dfk, HS⟩))
  all_goals
    have HM := MID _ _ _ HS
    clear MID cS HS d6 dk dfk c6 ck fk hm
    generalize w'.setCell ⟨Gh, kk, none⟩ (.slice pv n cv) = W1 at HM ⊢
    clear w'
    clear HP HC0 lc lh hk1 hk0 hk2
    obtain ⟨e8, f8, l8⟩ := CE _ _ _ _ HM
    clear CE
    rcases mo with _ | bm
    · have HM2 := MADE _ _ _ HM
      clear HM MADE
      have hq : ∀ w, (binOp .eql 70 (.map none) (.map none)).run Yba.prog w = .ok (.bool true) w := fun w => run_eql_map_nil w 70 72 73 none Yba.underlying70
      have hmm := @run_makeMap Yba.prog
      go_wp2
      generalize (W1.setCell ⟨Bc, 8, none⟩ (.map (some W1.heap.size))).alloc (.map #[] 0) = W2 at HM2 ⊢
      clear e8 f8 l8 hq hmm
      generalize W1.heap.size = bm at HM2 ⊢
      clear W1
      go_loopw [35] (fun vi wr => ∃ k : Nat, k ≤ N ∧ vi = .int .i64 k ∧ Put c0 bm W2 k wr) (fun vi _ => N - (intOf vi).toNat)
      case atStart => exact ⟨0, Nat.zero_le _, rfl, Put.start HM2.out⟩
      case round =>
        obtain ⟨k, hk, rfl, hp⟩ := hrel
        have hk0 : (0 : Int) ≤ (k : Int) := by omega
        by_cases hkn : k < N
        · have hk1 : (k : Int) < (N : Int) := by omega
          obtain ⟨s, nn, b, w2, r1, r2, r3, r4, hrun, HP2⟩ := RD _ _ _ _ HM2 k wr hkn hp
          clear RD FIN hp HM2
          go_wp2
          go_region
          all_goals
            go_wp2
            go_roundw
            case rel => go_light; exact ⟨k + 1, by omega, by go_num, HP2.out⟩
            case measure => simp [intOf]; omega
        · have hk1 : ¬ (k : Int) < (N : Int) := by omega
          obtain rfl : k = N := by omega
          have FN := FIN _ _ _ _ _ HM2 hp
          clear RD FIN hp HM2
          have HFN : Hid (Post _ _ _ _ _ _) := FN
          clear FN
          go_wp2
          go_end0
          exact ⟨⟨_, rfl⟩, pv, cv, bm, HFN.out⟩
    · have HM2 := HM
      clear HM MADE
      have hq : ∀ w, (binOp .eql 70 (.map (some bm)) (.map none)).run Yba.prog w = .ok (.bool false) w := fun w => run_eql_map_nil w 70 72 73 (some bm) Yba.underlying70
      go_wp2
      clear e8 f8 l8
      go_loopw [35] (fun vi wr => ∃ k : Nat, k ≤ N ∧ vi = .int .i64 k ∧ Put c0 bm W1 k wr) (fun vi _ => N - (intOf vi).toNat)
      case atStart => exact ⟨0, Nat.zero_le _, rfl, Put.start HM2.out⟩
      case round =>
        obtain ⟨k, hk, rfl, hp⟩ := hrel
        have hk0 : (0 : Int) ≤ (k : Int) := by omega
        by_cases hkn : k < N
        · have hk1 : (k : Int) < (N : Int) := by omega
          obtain ⟨s, nn, b, w2, r1, r2, r3, r4, hrun, HP2⟩ := RD _ _ _ _ HM2 k wr hkn hp
          clear RD FIN hp HM2
          go_wp2
          go_region
          all_goals
            go_wp2
            go_roundw
            case rel => go_light; exact ⟨k + 1, by omega, by go_num, HP2.out⟩
            case measure => simp [intOf]; omega
        · have hk1 : ¬ (k : Int) < (N : Int) := by omega
          obtain rfl : k = N := by omega
          have FN := FIN _ _ _ _ _ HM2 hp
          clear RD FIN hp HM2
          have HFN : Hid (Post _ _ _ _ _ _) := FN
          clear FN
          go_wp2
          go_end0
          exact ⟨⟨_, rfl⟩, pv, cv, bm, HFN.out⟩
end Go.Proofs.Ybulkdsyu
