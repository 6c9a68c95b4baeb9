import Derived.Test.YbulkdsyuB5
import Derived.Deep.RegionLaw
namespace Go.Proofs.Ybulkdsyu
open Go Go.RowKit Go.Maps Go.WideMaps Go.WideElems

/-- An append whose run is known, as one step of a region that draws. -/
theorem step_append_run {P : Program} {ops : Array Oper} {o : Oper} {a : Act} {w : World} {K : Act → World → Prop} {Q : Exit → Act → World → Prop} {E : Prop}
    (hg : o.guard = none) (s x : Operand) (t : TypeId) (hop : o.op = Op.call { callee := Callee.builtin Builtin.append, args := #[s, x], argTypes := #[t, t] })
    (v1 v2 v' : Value) (w' : World) (hs : a.eval s = v1) (hx : a.eval x = v2) (hrun : (Builtin.append_ #[t, t] o.type #[v1, v2]).run P w = .ok v' w')
    (hK : K (a.put o.dst v') w') :
    if Region.wanted o (yielded ops a.tmps) = true then Oper.wp P o a w K Q else E := by
  have hw : Region.wanted o (yielded ops a.tmps) = true := by simp [Region.wanted, hg]
  rw [if_pos hw]
  unfold Oper.wp
  simp [execOp, hop, resolve, invoke, builtin, hs, hx, hrun, Result.andThen]
  exact hK

/-- The same outside such a region. -/
theorem wpList_append_run {P : Program} {w : World} {ops : Array Oper} {rest : List Oper} {o : Oper} {a : Act} {Q : Exit → Act → World → Prop}
    (hg : o.guard = none) (s x : Operand) (t : TypeId) (hop : o.op = Op.call { callee := Callee.builtin Builtin.append, args := #[s, x], argTypes := #[t, t] })
    (v1 v2 v' : Value) (w' : World) (hs : a.eval s = v1) (hx : a.eval x = v2) (hrun : (Builtin.append_ #[t, t] o.type #[v1, v2]).run P w = .ok v' w')
    (hK : wpList P ops Q rest (a.put o.dst v') w') : wpList P ops Q (o :: rest) a w := by
  refine wpList_plain hg fun K hK' => ?_
  unfold Oper.wp
  simp [execOp, hop, resolve, invoke, builtin, hs, hx, hrun, Result.andThen]
  exact hK' _ _ hK

set_option maxHeartbeats 2000000 in
set_option maxRecDepth 100000 in
theorem key_new (B Bb Bl Bm : Nat) (vk vh : Value) (ms : List ByteArray) (v : Value) (s : ByteArray) (w : World) (h : LogSt B Bb Bl Bm vk vh ms w) (hs : s ∉ ms) (hsz : s.size ≤ 1048576) (hn : ms.length ≤ 5000)
    (hr : Reads (Under B) w v s) :
    Calls Yba.prog 10 #[.pointer (some ⟨Bb, 0, none⟩), v] w fun e w' => e = .returned (.int .i32 ms.length) ∧
      ∃ gk ck gh ch, LogSt B Bb Bl Bm (.slice (some ⟨gk, 0, none⟩) (ms.length + 1) ck) (.slice (some ⟨gh, 0, none⟩) (ms.length + 1) ch) (ms ++ [s]) w' ∧ Below B w w' ∧
        (∀ b, b < w.heap.size → b ≠ Bl → b ≠ Bm → some b ≠ vk.ownBlock → some b ≠ vh.ownBlock → w'.heap[b]? = w.heap[b]?) ∧ (some gk = vk.ownBlock ∨ w.heap.size ≤ gk) ∧ w.heap.size ≤ w'.heap.size := by
  obtain ⟨D, hD, hm⟩ := h.map
  have hkey : keyOf Yba.prog 9 (.string s) = some (.string s.data.toList) := keyOf_string_mk Yba.underlying9 (by unfold maxLen; omega)
  have h1 := hD.miss s hs
  have hconv : ∀ q, (convert 33 9 v).run Yba.prog (w.drewN q) = .ok (.string s) (w.drewN q) := fun q => Reads.conv (hr.kept (S' := Under B) fun b hb => ⟨hb, rfl⟩)
  have hlook : ∀ q, (Instr.lookup 49 (.map (some Bm)) (.string s) true).run Yba.prog (w.drewN q) = .ok (.tuple #[.int .i32 0, .bool false]) (w.drewN q) := by
    intro q
    have hmq : (w.drewN q).ownsMap Yba.prog 9 (plainElem Yba.prog 21) Bm ms.length D := hm
    obtain ⟨v1, ps, hrun, hR⟩ := hmq.look_ok keyed9 Yba.underlying49 (Yba.zeroValue21 _) (plainElem_int Yba.underlying21 (by decide)) hkey
    rw [atKey_of_not_has h1] at hR
    obtain ⟨a, rfl, hz, _⟩ := plainElem_int_inv Yba.underlying21 hR
    simp at hz
    rw [hrun, h1, hz.1]
  have hconv0 := hconv 0
  have hlook0 := hlook 0
  have c0 : w.cell? ⟨Bb, 0, none⟩ = some (.pointer (some ⟨Bl, 0, none⟩)) := by simp [World.cell?, h.hBb]
  have c1 : w.cell? ⟨Bl, 1, none⟩ = some (.map (some Bm)) := by simp [World.cell?, h.hBl]
  obtain ⟨p, len, cap, rfl⟩ := hr.form
  obtain ⟨pk, ck0, rfl⟩ := ownsRow_form h.keys
  obtain ⟨ph, ch0, rfl⟩ := ownsRow_form h.hosts
  have H : Hid (LogSt B Bb Bl Bm (.slice pk ms.length ck0) (.slice ph ms.length ch0) ms w) := h
  have HR : Hid (Reads (Under B) w (.slice p len cap) s) := hr
  have HS : Hid (s ∉ ms) := hs
  clear hr hm hD h1 h hkey hs
  go_enter Yba.func10, Yba.ntmps10
  go_wp2
  go_quiet (fail)
  generalize hwx : w.drewN _ = wx
  have Hx : Hid (LogSt B Bb Bl Bm (.slice pk ms.length ck0) (.slice ph ms.length ch0) ms wx) := by rw [← hwx]; exact H.out.heap rfl
  have HRx : Hid (Reads (Under B) wx (.slice p len cap) s) := by rw [← hwx]; exact HR.out.kept fun b hb => ⟨hb, rfl⟩
  have HWh : Hid (wx.heap = w.heap) := by rw [← hwx]; rfl
  have HWb : Hid (Below B w wx) := by rw [← hwx]; exact below_drewN (Below.refl _ _) _
  clear hwx hconv hconv0 hlook hlook0 c0 c1 H HR
  obtain ⟨gk, ck, w1, gh, ch, w2, w3, hrun1, hBl1, hrun2, m2, v2, z2, belB, hrun3, L3, bel3, hfr, hloc, hgk⟩ := key_parts Hx.out hn HS.out hsz
  have b0 : wx.cell? ⟨Bl, 0, none⟩ = some (.slice pk ms.length ck0) := by simp [World.cell?, Hx.out.hBl]
  have b1 : wx.cell? ⟨Bl, 1, none⟩ = some (.map (some Bm)) := by simp [World.cell?, Hx.out.hBl]
  have k0 : w1.cell? ⟨Bl, 0, none⟩ = some (.slice pk ms.length ck0) := by simp [World.cell?, hBl1, Hx.out.hBl]
  have k2 : w1.cell? ⟨Bl, 2, none⟩ = some (.slice ph ms.length ch0) := by simp [World.cell?, hBl1, Hx.out.hBl]
  have kf : w1.frozen? ⟨Bl, 0, none⟩ = false := by simp [World.frozen?, hBl1, Hx.out.hBl]
  have hcx : (convert 33 9 (.slice p len cap)).run Yba.prog wx.drew = .ok (.string s) wx.drew := Reads.conv (HRx.out.kept (S' := Under B) fun b hb => ⟨hb, rfl⟩)
  have hcz : (convert 33 9 (.slice p len cap)).run Yba.prog (w2.setCell ⟨Bl, 2, none⟩ (.slice (some ⟨gh, 0, none⟩) (ms.length + 1) ch)).drew = .ok (.string s) (w2.setCell ⟨Bl, 2, none⟩ (.slice (some ⟨gh, 0, none⟩) (ms.length + 1) ch)).drew :=
    Reads.conv (HRx.out.kept (S' := Under B) fun b hb => ⟨hb, belB.block b hb⟩)
  have FIN : Hid (LogSt B Bb Bl Bm (.slice (some ⟨gk, 0, none⟩) (ms.length + 1) ck) (.slice (some ⟨gh, 0, none⟩) (ms.length + 1) ch) (ms ++ [s]) w3 ∧ Below B w w3 ∧
        (∀ b, b < w.heap.size → b ≠ Bl → b ≠ Bm → some b ≠ (Value.slice pk ms.length ck0).ownBlock → some b ≠ (Value.slice ph ms.length ch0).ownBlock → w3.heap[b]? = w.heap[b]?) ∧ (some gk = (Value.slice pk ms.length ck0).ownBlock ∨ w.heap.size ≤ gk) ∧ w.heap.size ≤ w3.heap.size) := by
    have hh := HWh.out
    refine ⟨L3, HWb.out.trans bel3, ?_, ?_, ?_⟩
    · rw [← hh]; exact hfr
    · rw [← hh]; exact hloc
    · rw [← hh]; exact bel3.size
  clear L3 bel3 hfr hloc hgk belB HRx HWh HWb hBl1
  have hn1 : (ms.length : Int) ≤ 5000 := by omega
  have hn0 : (0 : Int) ≤ (ms.length : Int) := by omega
  have hltl : Bl < wx.heap.size := (Array.getElem?_eq_some_iff.1 Hx.out.hBl).1
  have HR1 : Hid ((Builtin.append_ #[37, 37] 37 #[.slice pk ms.length ck0, .slice (some ⟨wx.heap.size, 0, none⟩) 1 1]).run Yba.prog (wx.alloc (.cells #[.string s] 9)).drew = .ok (.slice (some ⟨gk, 0, none⟩) (ms.length + 1) ck) w1) := hrun1
  have HR2 : Hid ((Builtin.append_ #[50, 50] 50 #[.slice ph ms.length ch0, .slice (some ⟨w1.heap.size, 0, none⟩) 1 1]).run Yba.prog ((w1.setCell ⟨Bl, 0, none⟩ (.slice (some ⟨gk, 0, none⟩) (ms.length + 1) ck)).alloc (.cells #[.int .i32 ms.length, .int .i64 0, .slice none 0 0, .slice none 0 0, .slice none 0 0, .slice none 0 0, .bool false, .slice none 0 0, .slice none 0 0] 62)) = .ok (.slice (some ⟨gh, 0, none⟩) (ms.length + 1) ch) w2) := hrun2
  clear hrun1 hrun2 Hx
  go_wp2
  go_region_law (refine step_append_run rfl (.tmp 35) (.tmp 38) 37 rfl _ _ _ _ rfl rfl HR1.out ?_)
  all_goals
    go_wp2_with (at_builtin; refine wpList_append_run rfl (.tmp 46) (.tmp 50) 50 rfl _ _ _ _ rfl rfl HR2.out ?_)
    go_region
    go_wp2
    go_ret
    exact ⟨rfl, gk, ck, gh, ch, FIN.out⟩
end Go.Proofs.Ybulkdsyu
