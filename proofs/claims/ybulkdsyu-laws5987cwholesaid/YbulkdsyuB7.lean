import Derived.Test.YbulkdsyuB6
import Derived.Test.YbulkdsyuShelf
namespace Go.Proofs.Ybulkdsyu
open Go Go.RowKit Go.Maps Go.WideMaps Go.WideElems

/-- bytes.Clone of a slice that reads as s: one that reads as s, in memory of the call's own; nil just of nil. -/
theorem clone_any {S : Nat → Prop} (v : Value) (s : ByteArray) (w : World) (h : Reads S w v s) (hs : s.size ≤ 1048576) :
    Calls Yba.prog 7 #[v] w fun e w' => ∃ v', e = .returned v' ∧ Reads (fun b => w.heap.size ≤ b ∧ b < w'.heap.size) w' v' s ∧ Value.isNilSlice v' = Value.isNilSlice v ∧ Below w.heap.size w w' := by
  rcases h with ⟨rfl, rfl⟩ | ⟨a, len, cap, xs, rfl, hl, rfl, hc⟩
  · refine (Yba.bytes_Clone_nil 0 0 w).mono ?_
    rintro e w' ⟨rfl, rfl⟩
    exact ⟨_, rfl, .inl ⟨rfl, rfl⟩, rfl, Below.refl _ _⟩
  · rw [strOfNums_size, hl] at hs
    refine (Yba.bytes_Clone_at a len cap xs w hl (by omega) (fun i hi => (hc i hi).2)).mono ?_
    rintro e w' ⟨v', rfl, hown, hne, hb⟩
    rcases hown.2 with ⟨e, _⟩ | ⟨g, cap', cur, hv, hbase, hblk, h1, h2, h3, h4⟩
    · exact absurd e hne
    subst hv
    refine ⟨_, rfl, .inr ⟨⟨g, 0, none⟩, len, cap', xs, rfl, hl, rfl, fun i hi => ⟨⟨hbase, (Array.getElem?_eq_some_iff.1 hblk).1⟩, ?_⟩⟩, rfl, hb⟩
    rw [Addr.add_lit, Nat.zero_add, hown.cellAt i (by omega)]
    simp [List.getElem?_map, List.getElem?_eq_getElem (show i < xs.length by omega)]

/-- model = append(model, string(s)). -/
theorem append_str {B : Nat} {vm : Value} {ms : List ByteArray} {wx : World} (h : wx.ownsRow B 9 1 vm ms.length (ms.map Value.string)) (hB : B ≤ wx.heap.size) (hn : ms.length ≤ 5000) (s : ByteArray) :
    ∃ gk ck w1, (Builtin.append_ #[37, 37] 37 #[vm, .slice (some ⟨wx.heap.size, 0, none⟩) 1 1]).run Yba.prog (wx.alloc (.cells #[.string s] 9)) = .ok (.slice (some ⟨gk, 0, none⟩) (ms.length + 1) ck) w1 ∧
      w1.ownsRow B 9 1 (.slice (some ⟨gk, 0, none⟩) (ms.length + 1) ck) (ms ++ [s]).length ((ms ++ [s]).map Value.string) ∧ wx.grownBy w1 vm.ownBlock ∧ (some gk = vm.ownBlock ∨ wx.heap.size ≤ gk) := by
  obtain ⟨i0, hi, hz0, hz1, hz2⟩ := info_parts info9
  obtain ⟨v', w', hrun, hown, hg, hnil, hloc⟩ := run_append_own_at (P := Yba.prog) (wx.alloc (.cells #[.string s] 9)) B 37 37 9 i0 _ 1 16 Yba.underlying37 hi hz0 hz1 hz2 rfl (by decide) vm ms.length (ms.map Value.string) (h.alloc _)
    ⟨wx.heap.size, 0, none⟩ 1 1 [.string s] rfl (cell_one_new wx _ _) (fun u hu => by simp at hu; subst hu; rfl) (by unfold maxLen; omega) (by omega) (by simp; omega)
  have hne : v' ≠ .slice none 0 0 := fun e => by have := (hnil.1 e).2; omega
  rcases hown.2 with ⟨e, _⟩ | ⟨gk, ck, cur, rfl, rest⟩
  · exact absurd e hne
  refine ⟨gk, ck, w', hrun, ?_, (World.grownBy_alloc wx _ _).trans hg, ?_⟩
  · have : (ms ++ [s]).length = ms.length + 1 := by simp
    rw [this, List.map_append]
    exact hown
  · rcases hloc with e | e
    · exact .inl e
    · refine .inr ?_
      simp [Value.ownBlock] at e
      omega

/-- The log and the model beside it. -/
structure St (B Bb Bl Bm : Nat) (vk vh vm : Value) (ms : List ByteArray) (w : World) : Prop where
  log : LogSt B Bb Bl Bm vk vh ms w
  mod : w.ownsRow B 9 1 vm ms.length (ms.map Value.string)
  sep : ∀ g, vm.ownBlock = some g → vk.ownBlock ≠ some g

theorem St.size {B Bb Bl Bm : Nat} {vk vh vm : Value} {ms : List ByteArray} {w : World} (h : St B Bb Bl Bm vk vh vm ms w) : B ≤ w.heap.size := by
  have := h.log.low.1
  have := (Array.getElem?_eq_some_iff.1 h.log.hBb).1
  omega

theorem St.heap {B Bb Bl Bm : Nat} {vk vh vm : Value} {ms : List ByteArray} {w w' : World} (h : St B Bb Bl Bm vk vh vm ms w) (hh : w'.heap = w.heap) : St B Bb Bl Bm vk vh vm ms w' := by
  refine ⟨h.log.heap hh, ⟨h.mod.1, ?_⟩, h.sep⟩
  rcases h.mod.2 with h1 | ⟨g, cap, cur, hv, h2, h3, h4⟩
  · exact .inl h1
  · exact .inr ⟨g, cap, cur, hv, h2, by rw [hh]; exact h3, h4⟩

/-- What the model's row holds. -/
theorem St.cell {B Bb Bl Bm : Nat} {vk vh vm : Value} {ms : List ByteArray} {w : World} (h : St B Bb Bl Bm vk vh vm ms w) {p : Option Addr} {n cap : Nat} (hv : vm = .slice p n cap) (i : Nat) (hi : i < ms.length) :
    ∃ g, p = some ⟨g, 0, none⟩ ∧ w.cell? ⟨g, i, none⟩ = some (.string (ms.getD i ByteArray.empty)) := by
  rcases h.mod.2 with ⟨e, h0⟩ | ⟨g, cap', cur, e, _⟩
  · omega
  · have hp : p = some ⟨g, 0, none⟩ := by rw [hv] at e; simp at e; exact e.1
    refine ⟨g, hp, ?_⟩
    have hm := h.mod
    rw [e] at hm
    rw [hm.cellAt i (by omega)]
    simp [List.getElem?_map, List.getElem?_eq_getElem hi, List.getD_eq_getElem?_getD]

/-- A new name: the model grows first. -/
theorem St.grow {B Bb Bl Bm : Nat} {vk vh vm : Value} {ms : List ByteArray} {w : World} (h : St B Bb Bl Bm vk vh vm ms w) (hn : ms.length ≤ 5000) (s : ByteArray) :
    ∃ gm cm w1, (Builtin.append_ #[37, 37] 37 #[vm, .slice (some ⟨w.heap.size, 0, none⟩) 1 1]).run Yba.prog (w.alloc (.cells #[.string s] 9)) = .ok (.slice (some ⟨gm, 0, none⟩) (ms.length + 1) cm) w1 ∧
      LogSt B Bb Bl Bm vk vh ms w1 ∧ w1.ownsRow B 9 1 (.slice (some ⟨gm, 0, none⟩) (ms.length + 1) cm) (ms ++ [s]).length ((ms ++ [s]).map Value.string) ∧ some gm ≠ vk.ownBlock ∧ Below B w w1 := by
  obtain ⟨gm, cm, w1, hrun, hown, hg, hloc⟩ := append_str h.mod h.size hn s
  obtain ⟨D, hD, hm⟩ := h.log.map
  have hlow : ∀ k, vm.ownBlock = some k → B ≤ k := fun k hk => (h.mod.lt k hk).1
  refine ⟨gm, cm, w1, hrun, ?_, hown, ?_, below_grown hg hlow h.size⟩
  · refine h.log.kept fun b hb => ?_
    rcases hb with rfl | rfl | rfl | e | e
    · exact hg.block _ (Array.getElem?_eq_some_iff.1 h.log.hBb).1 (ne_block h.mod h.log.hBb (by decide))
    · exact hg.block _ (Array.getElem?_eq_some_iff.1 h.log.hBl).1 (ne_block h.mod h.log.hBl (by decide))
    · exact hg.block _ hm.lt (ne_map h.mod hm)
    · exact hg.block _ (h.log.keys.lt b e.symm).2 (fun e2 => h.sep b e2.symm e.symm)
    · obtain ⟨cur, hc⟩ := ownsRow_block h.log.hosts e.symm
      exact hg.block _ (Array.getElem?_eq_some_iff.1 hc).1 (ne_block h.mod hc (by decide))
  · intro e
    rcases hloc with e2 | e2
    · exact h.sep gm e2.symm e.symm
    · have := (h.log.keys.lt gm e.symm).2
      omega

/-- .. then the log. -/
theorem St.keyed {B Bb Bl Bm : Nat} {vk vh : Value} {ms : List ByteArray} {w1 w2 : World} {gm cm n : Nat} {s : ByteArray} {gk ck gh ch : Nat} (h : LogSt B Bb Bl Bm vk vh ms w1)
    (hm : w1.ownsRow B 9 1 (.slice (some ⟨gm, 0, none⟩) n cm) (ms ++ [s]).length ((ms ++ [s]).map Value.string)) (hsep : some gm ≠ vk.ownBlock)
    (h2 : LogSt B Bb Bl Bm (.slice (some ⟨gk, 0, none⟩) n ck) (.slice (some ⟨gh, 0, none⟩) n ch) (ms ++ [s]) w2)
    (hfr : ∀ b, b < w1.heap.size → b ≠ Bl → b ≠ Bm → some b ≠ vk.ownBlock → some b ≠ vh.ownBlock → w2.heap[b]? = w1.heap[b]?) (hloc : some gk = vk.ownBlock ∨ w1.heap.size ≤ gk) :
    St B Bb Bl Bm (.slice (some ⟨gk, 0, none⟩) n ck) (.slice (some ⟨gh, 0, none⟩) n ch) (.slice (some ⟨gm, 0, none⟩) n cm) (ms ++ [s]) w2 := by
  obtain ⟨D, hD, hmap⟩ := h.map
  obtain ⟨cur, hc⟩ := ownsRow_block hm (g := gm) rfl
  have hlt := (hm.lt gm rfl).2
  have hb : w2.heap[gm]? = w1.heap[gm]? := by
    refine hfr gm hlt ?_ ?_ hsep ?_
    · intro e; rw [e, h.hBl] at hc; simp at hc
    · intro e
      obtain ⟨es, clock, hb, _⟩ := hmap
      rw [e, hb] at hc; simp at hc
    · exact ne_block h.hosts hc (by decide)
  refine ⟨h2, ⟨hm.1, ?_⟩, ?_⟩
  · rcases hm.2 with ⟨e, _⟩ | ⟨g, cap, cur', hv, h3, h4, h5⟩
    · cases e
    · have : g = gm := by simp at hv; exact hv.1.symm
      subst this
      exact .inr ⟨g, cap, cur', hv, h3, hb.trans h4, h5⟩
  · intro g hg e
    simp [Value.ownBlock] at hg e
    subst hg
    rcases hloc with e2 | e2
    · exact hsep (by rw [← e]; exact e2)
    · omega
end Go.Proofs.Ybulkdsyu
