import Derived.Test.YbulkdsyuB8
namespace Go.Proofs.Ybulkdsyu
open Go Go.RowKit Go.Maps Go.WideMaps Go.WideElems

/-- The log and the model stay while nothing old turns. -/
theorem St.later {B Bb Bl Bm : Nat} {vk vh vm : Value} {ms : List ByteArray} {w w' : World} (h : St B Bb Bl Bm vk vh vm ms w) (hb : Below w.heap.size w w') : St B Bb Bl Bm vk vh vm ms w' := by
  obtain ⟨D, hD, hm⟩ := h.log.map
  refine ⟨h.log.kept fun b hx => hb.block b ?_, ⟨h.mod.1, ?_⟩, h.sep⟩
  · rcases hx with rfl | rfl | rfl | e | e
    · exact (Array.getElem?_eq_some_iff.1 h.log.hBb).1
    · exact (Array.getElem?_eq_some_iff.1 h.log.hBl).1
    · exact hm.lt
    · exact (h.log.keys.lt b e.symm).2
    · exact (h.log.hosts.lt b e.symm).2
  · rcases h.mod.2 with h1 | ⟨g, cap, cur, hv, h2, h3, h4⟩
    · exact .inl h1
    · exact .inr ⟨g, cap, cur, hv, h2, (hb.block g (Array.getElem?_eq_some_iff.1 h3).1).trans h3, h4⟩

/-- What the closing checks read. -/
structure Seen (Bb Bl Bm gk ck gh ch gm N : Nat) (ms : List ByteArray) (w : World) : Prop where
  bb0 : w.cell? ⟨Bb, 0, none⟩ = some (.pointer (some ⟨Bl, 0, none⟩))
  bb1 : w.cell? ⟨Bb, 1, none⟩ = some .nilFunc
  bb2 : w.cell? ⟨Bb, 2, none⟩ = some (.int .i32 0)
  bb3 : w.cell? ⟨Bb, 3, none⟩ = some (.int .i64 0)
  bb4 : w.cell? ⟨Bb, 4, none⟩ = some (.slice none 0 0)
  bb5 : w.cell? ⟨Bb, 5, none⟩ = some (.slice none 0 0)
  bb6 : w.cell? ⟨Bb, 6, none⟩ = some .nilIface
  bb7 : w.cell? ⟨Bb, 7, none⟩ = some (.int .i64 0)
  bl0 : w.cell? ⟨Bl, 0, none⟩ = some (.slice (some ⟨gk, 0, none⟩) N ck)
  bl1 : w.cell? ⟨Bl, 1, none⟩ = some (.map (some Bm))
  bl2 : w.cell? ⟨Bl, 2, none⟩ = some (.slice (some ⟨gh, 0, none⟩) N ch)
  bl3 : w.cell? ⟨Bl, 3, none⟩ = some (.slice none 0 0)
  bl4 : w.cell? ⟨Bl, 4, none⟩ = some (.slice none 0 0)
  bl5 : w.cell? ⟨Bl, 5, none⟩ = some (.int .i64 0)
  bl6 : w.cell? ⟨Bl, 6, none⟩ = some (.string ⟨#[]⟩)
  bl7 : w.cell? ⟨Bl, 7, none⟩ = some (.bool false)
  key : ∀ i, i < N → w.cell? ⟨gk, i, none⟩ = some (.string (ms.getD i ByteArray.empty))
  mod : ∀ i, i < N → w.cell? ⟨gm, i, none⟩ = some (.string (ms.getD i ByteArray.empty))
  host : ∀ i j, i < N → j < 9 → w.cell? ⟨gh, i * 9 + j, none⟩ = (hostCell i)[j]?
  len : ∀ ty, (Builtin.len_ #[49] ty #[.map (some Bm)]).run Yba.prog w = .ok (.int .i64 N) w
  obj : ∃ es clock, w.heap[Bm]? = some (.map es clock) ∧ es.size = N
  look : ∀ i, i < N → (ms.getD i ByteArray.empty).size ≤ 1048576 → (Instr.lookup 49 (.map (some Bm)) (.string (ms.getD i ByteArray.empty)) true).run Yba.prog w = .ok (.tuple #[.int .i32 i, .bool true]) w

theorem owned_form {w : World} {B : Nat} {e : TypeId} {size : Nat} {v : Value} {n : Nat} {xs : List Value} (h : w.ownsRow B e size v n xs) (hn : 0 < n) : ∃ g cap, v = .slice (some ⟨g, 0, none⟩) n cap := by
  rcases h.2 with ⟨rfl, rfl⟩ | ⟨g', cap, cur, rfl, _⟩
  · omega
  · exact ⟨_, _, rfl⟩

theorem string_cells {w : World} {B g cap : Nat} {ms : List ByteArray} (h : w.ownsRow B 9 1 (.slice (some ⟨g, 0, none⟩) ms.length cap) ms.length (ms.map Value.string)) (i : Nat) (hi : i < ms.length) : w.cell? ⟨g, i, none⟩ = some (.string (ms.getD i ByteArray.empty)) := by
  rw [h.cellAt i (by omega)]
  simp [List.getElem?_map, List.getElem?_eq_getElem hi, List.getD_eq_getElem?_getD]

theorem St.seen {B Bb Bl Bm gk ck gh ch gm cm N : Nat} {ms : List ByteArray} {w : World} (h : St B Bb Bl Bm (.slice (some ⟨gk, 0, none⟩) N ck) (.slice (some ⟨gh, 0, none⟩) N ch) (.slice (some ⟨gm, 0, none⟩) N cm) ms w) (hN : ms.length = N) :
    Seen Bb Bl Bm gk ck gh ch gm N ms w := by
  subst hN
  obtain ⟨D, hD, hm⟩ := h.log.map
  have hb := h.log.hBb
  have hl := h.log.hBl
  have hlen : ∀ ty, (Builtin.len_ #[49] ty #[.map (some Bm)]).run Yba.prog w = .ok (.int .i64 ms.length) w := fun ty => by rw [hm.len Yba.underlying49 ty, hD.size]
  refine ⟨?_, ?_, ?_, ?_, ?_, ?_, ?_, ?_, ?_, ?_, ?_, ?_, ?_, ?_, ?_, ?_, string_cells h.log.keys, string_cells h.mod, ?_, hlen, ?_, ?_⟩
  · simp [World.cell?, hb]
  · simp [World.cell?, hb]
  · simp [World.cell?, hb]
  · simp [World.cell?, hb]
  · simp [World.cell?, hb]
  · simp [World.cell?, hb]
  · simp [World.cell?, hb]
  · simp [World.cell?, hb]
  · simp [World.cell?, hl]
  · simp [World.cell?, hl]
  · simp [World.cell?, hl]
  · simp [World.cell?, hl]
  · simp [World.cell?, hl]
  · simp [World.cell?, hl]
  · simp [World.cell?, hl]
  · simp [World.cell?, hl]
  · intro i j hi hj
    rw [h.log.hosts.cellAt (i * 9 + j) (by omega), hostCells_at _ _ _ hi hj]
  · have hs := hD.size
    obtain ⟨es, clock, hbm, F, hle, rfl⟩ := hm
    refine ⟨es, clock, hbm, ?_⟩
    rw [← hs]
    simp [Maps.size, length_sorted]
  · intro i hi hsz
    have hkey : keyOf Yba.prog 9 (.string (ms.getD i ByteArray.empty)) = some (.string (ms.getD i ByteArray.empty).data.toList) := keyOf_string_mk Yba.underlying9 (by unfold maxLen; omega)
    have hi' : ms[i]? = some (ms.getD i ByteArray.empty) := by simp [List.getD_eq_getElem?_getD, List.getElem?_eq_getElem hi]
    obtain ⟨h1, h2⟩ := hD.hit i _ hi'
    obtain ⟨v1, ps, hrun, hR⟩ := hm.look_ok keyed9 Yba.underlying49 (Yba.zeroValue21 _) (plainElem_int Yba.underlying21 (by decide)) hkey
    rw [h2] at hR
    obtain ⟨a, rfl, hz, _⟩ := plainElem_int_inv Yba.underlying21 hR
    simp at hz
    rw [hrun, h1, hz.1]
end Go.Proofs.Ybulkdsyu
