import Derived.Test.YbulkdsyuB4
namespace Go.Proofs.Ybulkdsyu
open Go Go.RowKit Go.Maps Go.WideMaps Go.WideElems

theorem below_grown {B : Nat} {w w' : World} {row : Option Nat} (hg : w.grownBy w' row) (hr : ∀ k, row = some k → B ≤ k) (hB : B ≤ w.heap.size) : Below B w w' :=
  (Below.refl B w).grown hg hB hr

/-- append(l.keys, string(name)). -/
theorem append_keys {B : Nat} {vk : Value} {ms : List ByteArray} {wx : World} (h : wx.ownsRow B 9 1 vk ms.length (ms.map Value.string)) (hB : B ≤ wx.heap.size) (hn : ms.length ≤ 5000) (s : ByteArray) :
    ∃ gk ck w1, (Builtin.append_ #[37, 37] 37 #[vk, .slice (some ⟨wx.heap.size, 0, none⟩) 1 1]).run Yba.prog (wx.alloc (.cells #[.string s] 9)).drew = .ok (.slice (some ⟨gk, 0, none⟩) (ms.length + 1) ck) w1 ∧
      w1.ownsRow B 9 1 (.slice (some ⟨gk, 0, none⟩) (ms.length + 1) ck) (ms ++ [s]).length ((ms ++ [s]).map Value.string) ∧ wx.grownBy w1 vk.ownBlock ∧ (some gk = vk.ownBlock ∨ wx.heap.size ≤ gk) := by
  obtain ⟨i0, hi, hz0, hz1, hz2⟩ := info_parts info9
  obtain ⟨v', w', hrun, hown, hg, hnil, hloc⟩ := run_append_own_at (P := Yba.prog) (wx.alloc (.cells #[.string s] 9)).drew B 37 37 9 i0 _ 1 16 Yba.underlying37 hi hz0 hz1 hz2 rfl (by decide) vk ms.length (ms.map Value.string) (h.alloc _)
    ⟨wx.heap.size, 0, none⟩ 1 1 [.string s] rfl (cell_one_new wx _ _) (fun u hu => by simp at hu; subst hu; rfl) (by unfold maxLen; omega) (by omega) (by simp; omega)
  have hne : v' ≠ .slice none 0 0 := fun e => by have := (hnil.1 e).2; omega
  rcases hown.2 with ⟨e, _⟩ | ⟨gk, ck, cur, rfl, rest⟩
  · exact absurd e hne
  refine ⟨gk, ck, w', hrun, ?_, ?_, ?_⟩
  · have : (ms ++ [s]).length = ms.length + 1 := by simp
    rw [this, List.map_append]
    exact hown
  · exact (World.grownBy_alloc wx _ _).trans ⟨hg.os, hg.tape, hg.output, hg.size, hg.block⟩
  · rcases hloc with e | e
    · exact .inl e
    · refine .inr ?_
      simp [Value.ownBlock] at e
      omega

/-- append(l.hosts, hostEvents{..}). -/
theorem append_hosts {B n : Nat} {vh : Value} {wy : World} (h : wy.ownsRow B 62 9 vh n (hostCells n)) (hB : B ≤ wy.heap.size) (hn : n ≤ 5000) :
    ∃ gh ch w2, (Builtin.append_ #[50, 50] 50 #[vh, .slice (some ⟨wy.heap.size, 0, none⟩) 1 1]).run Yba.prog (wy.alloc (.cells #[.int .i32 n, .int .i64 0, .slice none 0 0, .slice none 0 0, .slice none 0 0, .slice none 0 0, .bool false, .slice none 0 0, .slice none 0 0] 62)) = .ok (.slice (some ⟨gh, 0, none⟩) (n + 1) ch) w2 ∧
      w2.ownsRow B 62 9 (.slice (some ⟨gh, 0, none⟩) (n + 1) ch) (n + 1) (hostCells (n + 1)) ∧ wy.grownBy w2 vh.ownBlock ∧ (some gh = vh.ownBlock ∨ wy.heap.size ≤ gh) := by
  obtain ⟨i0, hi, hz0, hz1, hz2⟩ := info_parts info62
  obtain ⟨v', w', hrun, hown, hg, hnil, hloc⟩ := run_append_own_at (P := Yba.prog) (wy.alloc (.cells (hostCell n).toArray 62)) B 50 50 62 i0 _ 9 168 Yba.underlying50 hi hz0 hz1 hz2 rfl (by decide) vh n (hostCells n) (h.alloc _)
    ⟨wy.heap.size, 0, none⟩ 1 1 (hostCell n) rfl
    (fun j u hj => by
      rw [Addr.add_lit, Nat.zero_add]
      have : (wy.alloc (.cells (hostCell n).toArray 62)).cell? ⟨wy.heap.size, j, none⟩ = (hostCell n).toArray[j]? := cell_of_row _ _ _ _ _ _ (heap_alloc_new _ _)
      rw [this]
      simpa using hj)
    (fun u hu => by simp [hostCell] at hu; rcases hu with rfl | rfl | rfl | rfl | rfl <;> rfl) (by unfold maxLen; omega) (by omega) (by simp; omega)
  have hne : v' ≠ .slice none 0 0 := fun e => by have := (hnil.1 e).2; omega
  rcases hown.2 with ⟨e, _⟩ | ⟨gk, ck, cur, rfl, rest⟩
  · exact absurd e hne
  refine ⟨gk, ck, w', hrun, ?_, ?_, ?_⟩
  · rw [hostCells_succ]
    exact hown
  · exact (World.grownBy_alloc wy _ _).trans hg
  · rcases hloc with e | e
    · exact .inl e
    · refine .inr ?_
      simp [Value.ownBlock] at e
      omega

/-- All that b.key(name) does to the log at a new name, step by step. -/
theorem key_parts {B Bb Bl Bm : Nat} {vk vh : Value} {ms : List ByteArray} {wx : World} (h : LogSt B Bb Bl Bm vk vh ms wx) (hn : ms.length ≤ 5000) {s : ByteArray} (hs : s ∉ ms) (hsz : s.size ≤ 1048576) :
    ∃ gk ck w1 gh ch w2 w3,
      (Builtin.append_ #[37, 37] 37 #[vk, .slice (some ⟨wx.heap.size, 0, none⟩) 1 1]).run Yba.prog (wx.alloc (.cells #[.string s] 9)).drew = .ok (.slice (some ⟨gk, 0, none⟩) (ms.length + 1) ck) w1 ∧
      w1.heap[Bl]? = wx.heap[Bl]? ∧
      (Builtin.append_ #[50, 50] 50 #[vh, .slice (some ⟨w1.heap.size, 0, none⟩) 1 1]).run Yba.prog ((w1.setCell ⟨Bl, 0, none⟩ (.slice (some ⟨gk, 0, none⟩) (ms.length + 1) ck)).alloc (.cells #[.int .i32 ms.length, .int .i64 0, .slice none 0 0, .slice none 0 0, .slice none 0 0, .slice none 0 0, .bool false, .slice none 0 0, .slice none 0 0] 62)) = .ok (.slice (some ⟨gh, 0, none⟩) (ms.length + 1) ch) w2 ∧
      w2.cell? ⟨Bl, 1, none⟩ = some (.map (some Bm)) ∧ w2.cell? ⟨Bl, 2, none⟩ = some vh ∧ w2.frozen? ⟨Bl, 2, none⟩ = false ∧
      Below B wx (w2.setCell ⟨Bl, 2, none⟩ (.slice (some ⟨gh, 0, none⟩) (ms.length + 1) ch)) ∧
      (Instr.mapUpdate 49 (.map (some Bm)) (.string s) (.int .i32 ms.length)).run Yba.prog (w2.setCell ⟨Bl, 2, none⟩ (.slice (some ⟨gh, 0, none⟩) (ms.length + 1) ch)).drew = .ok () w3 ∧
      LogSt B Bb Bl Bm (.slice (some ⟨gk, 0, none⟩) (ms.length + 1) ck) (.slice (some ⟨gh, 0, none⟩) (ms.length + 1) ch) (ms ++ [s]) w3 ∧
      Below B wx w3 ∧ (∀ b, b < wx.heap.size → b ≠ Bl → b ≠ Bm → some b ≠ vk.ownBlock → some b ≠ vh.ownBlock → w3.heap[b]? = wx.heap[b]?) ∧
      (some gk = vk.ownBlock ∨ wx.heap.size ≤ gk) ∧ gk < w3.heap.size := by
  obtain ⟨D, hD, hm⟩ := h.map
  have hltl : Bl < wx.heap.size := (Array.getElem?_eq_some_iff.1 h.hBl).1
  have hltb : Bb < wx.heap.size := (Array.getElem?_eq_some_iff.1 h.hBb).1
  have hltm : Bm < wx.heap.size := hm.lt
  have hB : B ≤ wx.heap.size := by have := h.low.1; omega
  -- the names
  obtain ⟨gk, ck, w1, hrun1, hown1, hg1, hloc1⟩ := append_keys h.keys hB hn s
  have hrk : ∀ k, vk.ownBlock = some k → B ≤ k := fun k hk => (h.keys.lt k hk).1
  have hrh : ∀ k, vh.ownBlock = some k → B ≤ k := fun k hk => (h.hosts.lt k hk).1
  have nl_k : some Bl ≠ vk.ownBlock := ne_block h.keys h.hBl (by decide)
  have nb_k : some Bb ≠ vk.ownBlock := ne_block h.keys h.hBb (by decide)
  have nm_k : some Bm ≠ vk.ownBlock := ne_map h.keys hm
  have hBl1 : w1.heap[Bl]? = wx.heap[Bl]? := hg1.block Bl hltl nl_k
  have hBb1 : w1.heap[Bb]? = wx.heap[Bb]? := hg1.block Bb hltb nb_k
  have hhosts1 := h.hosts.kept hg1 (ne_rows h.hosts h.keys (by decide))
  have hm1 := hm.kept hg1 nm_k
  have hs1 := hg1.size
  -- l.keys = ..
  have hBly : (w1.setCell ⟨Bl, 0, none⟩ (.slice (some ⟨gk, 0, none⟩) (ms.length + 1) ck)).heap[Bl]? = some (.cells #[.slice (some ⟨gk, 0, none⟩) (ms.length + 1) ck, .map (some Bm), vh, .slice none 0 0, .slice none 0 0, .int .i64 0, .string ⟨#[]⟩, .bool false] 53 (0, 0)) := by
    rw [heap_setCell_same _ _ _ _ _ _ (hBl1.trans h.hBl)]
    rfl
  have other1 : ∀ b, b ≠ Bl → (w1.setCell ⟨Bl, 0, none⟩ (.slice (some ⟨gk, 0, none⟩) (ms.length + 1) ck)).heap[b]? = w1.heap[b]? := fun b hb => heap_setCell_other _ _ _ _ hb
  have gsetA : w1.grownBy (w1.setCell ⟨Bl, 0, none⟩ (.slice (some ⟨gk, 0, none⟩) (ms.length + 1) ck)) (some Bl) := ⟨rfl, rfl, rfl, by simp, fun k _ hk => other1 k (fun e => hk (by rw [e]))⟩
  have nl_h1 : some Bl ≠ vh.ownBlock := ne_block hhosts1 (hBl1.trans h.hBl) (by decide)
  have nl_k1 : some Bl ≠ (Value.slice (some ⟨gk, 0, none⟩) (ms.length + 1) ck).ownBlock := ne_block hown1 (hBl1.trans h.hBl) (by decide)
  have hhostsy := hhosts1.kept gsetA (.inr (fun e => nl_h1 e.symm))
  have hkeysy := hown1.kept gsetA (.inr (fun e => nl_k1 e.symm))
  have nml : Bm ≠ Bl := by
    intro e
    obtain ⟨es, clock, hb, _⟩ := hm
    rw [e, h.hBl] at hb
    simp at hb
  have nbl : Bb ≠ Bl := by
    intro e
    have := h.hBb
    rw [e, h.hBl] at this
    simp at this
  have hmy := hm1.kept gsetA (by simpa using nml)
  -- the hosts
  obtain ⟨gh, ch, w2, hrun2, hown2, hg2, hloc2⟩ := append_hosts hhostsy (by simp; omega) hn
  have hsy : (w1.setCell ⟨Bl, 0, none⟩ (.slice (some ⟨gk, 0, none⟩) (ms.length + 1) ck)).heap.size = w1.heap.size := by simp
  have hltl1 : Bl < w1.heap.size := by omega
  have hBl2 : w2.heap[Bl]? = some (.cells #[.slice (some ⟨gk, 0, none⟩) (ms.length + 1) ck, .map (some Bm), vh, .slice none 0 0, .slice none 0 0, .int .i64 0, .string ⟨#[]⟩, .bool false] 53 (0, 0)) := (hg2.block Bl (by omega) nl_h1).trans hBly
  have hBb2 : w2.heap[Bb]? = wx.heap[Bb]? := ((hg2.block Bb (by omega) (ne_block hhostsy ((other1 Bb nbl).trans (hBb1.trans h.hBb)) (by decide))).trans (other1 Bb nbl)).trans hBb1
  have hkeys2 := hkeysy.kept hg2 (ne_rows hkeysy hhostsy (by decide))
  have hm2 := hmy.kept hg2 (ne_map hhostsy hmy)
  have hs2 := hg2.size
  -- l.hosts = ..
  have hBlz : (w2.setCell ⟨Bl, 2, none⟩ (.slice (some ⟨gh, 0, none⟩) (ms.length + 1) ch)).heap[Bl]? = some (.cells #[.slice (some ⟨gk, 0, none⟩) (ms.length + 1) ck, .map (some Bm), .slice (some ⟨gh, 0, none⟩) (ms.length + 1) ch, .slice none 0 0, .slice none 0 0, .int .i64 0, .string ⟨#[]⟩, .bool false] 53 (0, 0)) := by
    rw [heap_setCell_same _ _ _ _ _ _ hBl2]
    rfl
  have other2 : ∀ b, b ≠ Bl → (w2.setCell ⟨Bl, 2, none⟩ (.slice (some ⟨gh, 0, none⟩) (ms.length + 1) ch)).heap[b]? = w2.heap[b]? := fun b hb => heap_setCell_other _ _ _ _ hb
  have gsetB : w2.grownBy (w2.setCell ⟨Bl, 2, none⟩ (.slice (some ⟨gh, 0, none⟩) (ms.length + 1) ch)) (some Bl) := ⟨rfl, rfl, rfl, by simp, fun k _ hk => other2 k (fun e => hk (by rw [e]))⟩
  have hkeysz := hkeys2.kept gsetB (.inr (fun e => nl_k1 e.symm))
  have hhostsz := hown2.kept gsetB (.inr (fun e => (ne_block hown2 hBl2 (by decide)) e.symm))
  have hmz := hm2.kept gsetB (by simpa using nml)
  have hmzd : (w2.setCell ⟨Bl, 2, none⟩ (.slice (some ⟨gh, 0, none⟩) (ms.length + 1) ch)).drew.ownsMap Yba.prog 9 (plainElem Yba.prog 21) Bm ms.length D := hmz
  -- l.index[name] = k
  have hkey : keyOf Yba.prog 9 (.string s) = some (.string s.data.toList) := keyOf_string_mk Yba.underlying9 (by unfold maxLen; omega)
  obtain ⟨w3, hrun3, hm3, hturn⟩ := hmzd.store keyed9 Yba.underlying49 (by unfold maxLen; omega) hkey (plainElem_int Yba.underlying21 (a := (ms.length : Int)) (by simp [Lit.wf, IntKind.min, IntKind.max, IntKind.signed, IntKind.bits]; omega))
  have hg3 : (w2.setCell ⟨Bl, 2, none⟩ (.slice (some ⟨gh, 0, none⟩) (ms.length + 1) ch)).grownBy w3 (some Bm) := by
    have := hturn.grown
    exact ⟨this.os, this.tape, this.output, this.size, this.block⟩
  have hsz2 : (w2.setCell ⟨Bl, 2, none⟩ (.slice (some ⟨gh, 0, none⟩) (ms.length + 1) ch)).heap.size = w2.heap.size := by simp
  have bel1 : Below B wx w1 := below_grown hg1 hrk hB
  have belA : Below B wx (w1.setCell ⟨Bl, 0, none⟩ (.slice (some ⟨gk, 0, none⟩) (ms.length + 1) ck)) := bel1.setCell h.low.2.1 _
  have bel2 : Below B wx w2 := belA.grown hg2 (Nat.le_trans hB belA.size) hrh
  have belB : Below B wx (w2.setCell ⟨Bl, 2, none⟩ (.slice (some ⟨gh, 0, none⟩) (ms.length + 1) ch)) := bel2.setCell h.low.2.1 _
  have bel3 : Below B wx w3 := belB.grown hg3 (Nat.le_trans hB belB.size) (fun k hk => by cases hk; exact h.low.2.2)
  have hlen : (ms ++ [s]).length = ms.length + 1 := by simp
  refine ⟨gk, ck, w1, gh, ch, w2, w3, hrun1, hBl1, ?_, ?_, ?_, ?_, belB, hrun3, ⟨?_, ?_, ?_, ?_, ?_, h.low⟩, bel3, ?_, hloc1, ?_⟩
  · rw [hsy] at hrun2
    exact hrun2
  · simp [World.cell?, hBl2]
  · simp [World.cell?, hBl2]
  · simp [World.frozen?, hBl2]
  · have nbm : some Bb ≠ some Bm := by
      intro e
      obtain ⟨es, clock, hb, _⟩ := hm
      cases e
      rw [h.hBb] at hb
      simp at hb
    exact ((hg3.block Bb (by omega) nbm).trans (other2 Bb nbl)).trans (hBb2.trans h.hBb)
  · exact (hg3.block Bl (by omega) (by simpa using Ne.symm nml)).trans hBlz
  · exact hkeysz.kept hg3 (.inr (fun e => (ne_map hkeysz hmz) e.symm))
  · rw [hlen]
    exact hhostsz.kept hg3 (.inr (fun e => (ne_map hhostsz hmz) e.symm))
  · rw [hlen]
    exact ⟨_, hD.put (hm.tidy keyed9) hs, hm3⟩
  · intro b hb1 hb2 hb3 hb4 hb5
    rw [hg3.block b (by omega) (by simpa using hb3), other2 b hb2, hg2.block b (by omega) hb5, other1 b hb2, hg1.block b hb1 hb4]
  · have := hkeysz.lt gk rfl
    have := hg3.size
    omega
end Go.Proofs.Ybulkdsyu
