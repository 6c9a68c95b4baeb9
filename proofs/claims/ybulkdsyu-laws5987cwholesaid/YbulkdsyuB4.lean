import Derived.Test.YbulkdsyuB3
import Derived.ProofKit
namespace Go.Proofs.Ybulkdsyu
open Go Go.RowKit Go.Maps Go.WideMaps Go.WideElems

/-- One hostEvents, its own key i. -/
def hostCell (i : Nat) : List Value := [.int .i32 i, .int .i64 0, .slice none 0 0, .slice none 0 0, .slice none 0 0, .slice none 0 0, .bool false, .slice none 0 0, .slice none 0 0]
def hostCells (n : Nat) : List Value := (List.range n).flatMap hostCell

theorem hostCells_succ (n : Nat) : hostCells (n + 1) = hostCells n ++ hostCell n := by simp [hostCells, List.range_succ]
theorem hostCells_length (n : Nat) : (hostCells n).length = n * 9 := by
  induction n with
  | zero => rfl
  | succ n ih => rw [hostCells_succ, List.length_append, ih]; simp [hostCell]; omega
theorem hostCells_at (n i j : Nat) (hi : i < n) (hj : j < 9) : (hostCells n)[i * 9 + j]? = (hostCell i)[j]? := by
  induction n with
  | zero => omega
  | succ n ih =>
    rw [hostCells_succ]
    by_cases h : i < n
    · rw [List.getElem?_append_left (by rw [hostCells_length]; omega)]
      exact ih h
    · obtain rfl : i = n := by omega
      rw [List.getElem?_append_right (by rw [hostCells_length]; omega), hostCells_length]
      congr 1
      omega

structure LogSt (B Bb Bl Bm : Nat) (vk vh : Value) (ms : List ByteArray) (w : World) : Prop where
  hBb : w.heap[Bb]? = some (.cells #[.pointer (some ⟨Bl, 0, none⟩), .nilFunc, .int .i32 0, .int .i64 0, .slice none 0 0, .slice none 0 0, .nilIface, .int .i64 0] 48 (0, 0))
  hBl : w.heap[Bl]? = some (.cells #[vk, .map (some Bm), vh, .slice none 0 0, .slice none 0 0, .int .i64 0, .string ⟨#[]⟩, .bool false] 53 (0, 0))
  keys : w.ownsRow B 9 1 vk ms.length (ms.map Value.string)
  hosts : w.ownsRow B 62 9 vh ms.length (hostCells ms.length)
  map : ∃ D, Dict ms D ∧ w.ownsMap Yba.prog 9 (plainElem Yba.prog 21) Bm ms.length D
  low : B ≤ Bb ∧ B ≤ Bl ∧ B ≤ Bm

theorem ownsRow_block {w : World} {B : Nat} {e : TypeId} {size : Nat} {v : Value} {n : Nat} {xs : List Value} (h : w.ownsRow B e size v n xs) {g : Nat} (hg : v.ownBlock = some g) : ∃ cur, w.heap[g]? = some (.cells cur e (0, 0)) := by
  rcases h.2 with ⟨rfl, _⟩ | ⟨g', cap, cur, rfl, _, hh, _⟩
  · simp [Value.ownBlock] at hg
  · simp [Value.ownBlock] at hg
    subst hg
    exact ⟨cur, hh⟩

theorem ownsRow_form {w : World} {B : Nat} {e : TypeId} {size : Nat} {v : Value} {n : Nat} {xs : List Value} (h : w.ownsRow B e size v n xs) : ∃ p cap, v = .slice p n cap := by
  rcases h.2 with ⟨rfl, rfl⟩ | ⟨g', cap, cur, rfl, _⟩
  · exact ⟨_, _, rfl⟩
  · exact ⟨_, _, rfl⟩

/-- Two rows of different element types lie in different blocks. -/
theorem ne_block {w : World} {B : Nat} {e : TypeId} {size : Nat} {v : Value} {n : Nat} {xs : List Value} (h : w.ownsRow B e size v n xs) {g : Nat} {cs : Array Value} {t : TypeId} {fr : Nat × Nat} (hg : w.heap[g]? = some (.cells cs t fr)) (hne : e ≠ t) : some g ≠ v.ownBlock := by
  intro e1
  obtain ⟨cur, hc⟩ := ownsRow_block h e1.symm
  rw [hc] at hg
  simp at hg
  exact hne hg.2.1
theorem ne_map {w : World} {B : Nat} {e : TypeId} {size : Nat} {v : Value} {n : Nat} {xs : List Value} (h : w.ownsRow B e size v n xs) {b m : Nat} {D : DataW Unit} (hm : w.ownsMap Yba.prog 9 (plainElem Yba.prog 21) b m D) : some b ≠ v.ownBlock := by
  intro e1
  obtain ⟨cur, hc⟩ := ownsRow_block h e1.symm
  obtain ⟨es, clock, hb, _⟩ := hm
  rw [hc] at hb
  simp at hb
theorem ne_rows {w : World} {B B' : Nat} {e e' : TypeId} {size size' : Nat} {v v' : Value} {n n' : Nat} {xs xs' : List Value} (h : w.ownsRow B e size v n xs) (h' : w.ownsRow B' e' size' v' n' xs') (hne : e ≠ e') : v.ownBlock = none ∨ v.ownBlock ≠ v'.ownBlock := by
  cases hv : v.ownBlock with
  | none => exact .inl rfl
  | some g =>
    refine .inr fun e1 => ?_
    obtain ⟨cur, hc⟩ := ownsRow_block h hv
    obtain ⟨cur', hc'⟩ := ownsRow_block h' e1.symm
    rw [hc] at hc'
    simp at hc'
    exact hne hc'.2

/-- The log is as it was where its own blocks are. -/
theorem LogSt.kept {B Bb Bl Bm : Nat} {vk vh : Value} {ms : List ByteArray} {w w' : World} (h : LogSt B Bb Bl Bm vk vh ms w)
    (hb : ∀ b, b = Bb ∨ b = Bl ∨ b = Bm ∨ some b = vk.ownBlock ∨ some b = vh.ownBlock → w'.heap[b]? = w.heap[b]?) : LogSt B Bb Bl Bm vk vh ms w' := by
  refine ⟨(hb Bb (.inl rfl)).trans h.hBb, (hb Bl (.inr (.inl rfl))).trans h.hBl, ?_, ?_, ?_, h.low⟩
  · refine ⟨h.keys.1, ?_⟩
    rcases h.keys.2 with h1 | ⟨g, cap, cur, hv, h2, h3, h4⟩
    · exact .inl h1
    · exact .inr ⟨g, cap, cur, hv, h2, (hb g (.inr (.inr (.inr (.inl (by rw [hv]; rfl)))))).trans h3, h4⟩
  · refine ⟨h.hosts.1, ?_⟩
    rcases h.hosts.2 with h1 | ⟨g, cap, cur, hv, h2, h3, h4⟩
    · exact .inl h1
    · exact .inr ⟨g, cap, cur, hv, h2, (hb g (.inr (.inr (.inr (.inr (by rw [hv]; rfl)))))).trans h3, h4⟩
  · obtain ⟨D, hD, es, clock, h1, h2⟩ := h.map
    exact ⟨D, hD, es, clock, (hb Bm (.inr (.inr (.inl rfl)))).trans h1, h2⟩

theorem LogSt.heap {B Bb Bl Bm : Nat} {vk vh : Value} {ms : List ByteArray} {w w' : World} (h : LogSt B Bb Bl Bm vk vh ms w) (hh : w'.heap = w.heap) : LogSt B Bb Bl Bm vk vh ms w' :=
  h.kept fun b _ => by rw [hh]

set_option maxHeartbeats 1000000 in
set_option maxRecDepth 100000 in
theorem key_old (B Bb Bl Bm : Nat) (vk vh : Value) (ms : List ByteArray) (i : Nat) (v : Value) (s : ByteArray) (w : World) (h : LogSt B Bb Bl Bm vk vh ms w) (hi : ms[i]? = some s) (hs : s.size ≤ 1048576)
    {S : Nat → Prop} (hr : Reads S w v s) :
    Calls Yba.prog 10 #[.pointer (some ⟨Bb, 0, none⟩), v] w fun e w' => e = .returned (.int .i32 i) ∧ ∃ q, w' = w.drewN q := by
  obtain ⟨D, hD, hm⟩ := h.map
  have hkey : keyOf Yba.prog 9 (.string s) = some (.string s.data.toList) := keyOf_string_mk Yba.underlying9 (by unfold maxLen; omega)
  obtain ⟨h1, h2⟩ := hD.hit i s hi
  have hconv : ∀ q, (convert 33 9 v).run Yba.prog (w.drewN q) = .ok (.string s) (w.drewN q) := fun q => Reads.conv (hr.kept (S' := S) fun b hb => ⟨hb, rfl⟩)
  have hlook : ∀ q, (Instr.lookup 49 (.map (some Bm)) (.string s) true).run Yba.prog (w.drewN q) = .ok (.tuple #[.int .i32 i, .bool true]) (w.drewN q) := by
    intro q
    have hmq : (w.drewN q).ownsMap Yba.prog 9 (plainElem Yba.prog 21) Bm ms.length D := hm
    obtain ⟨v1, ps, hrun, hR⟩ := hmq.look_ok keyed9 Yba.underlying49 (Yba.zeroValue21 _) (plainElem_int Yba.underlying21 (by decide)) hkey
    rw [h2] at hR
    obtain ⟨a, rfl, hz, _⟩ := plainElem_int_inv Yba.underlying21 hR
    simp at hz
    rw [hrun, h1, hz.1]
  have c0 : w.cell? ⟨Bb, 0, none⟩ = some (.pointer (some ⟨Bl, 0, none⟩)) := by simp [World.cell?, h.hBb]
  have c1 : w.cell? ⟨Bl, 1, none⟩ = some (.map (some Bm)) := by simp [World.cell?, h.hBl]
  have hconv0 := hconv 0
  have hlook0 := hlook 0
  obtain ⟨p, len, cap, rfl⟩ := hr.form
  clear hr hm hD h2 h1 hi h hkey
  go_enter Yba.func10, Yba.ntmps10
  go_wp2
  go_quiet (fail)
  go_wp2
  go_ret
  exact ⟨rfl, _, rfl⟩

theorem info9 : (Yba.prog.info? 9).map (fun i => (i.zero, i.size, i.bytes)) = some (some (.string ⟨#[]⟩), 1, 16) := by kernel_rfl
theorem info62 : (Yba.prog.info? 62).map (fun i => (i.zero, i.size, i.bytes)) = some (some (.agg (hostCell 0).toArray), 9, 168) := by kernel_rfl
end Go.Proofs.Ybulkdsyu
