import Derived.Test.YbulkdsyuB8b
namespace Go.Proofs.Ybulkdsyu
open Go Go.RowKit Go.Maps Go.WideMaps Go.WideElems

/-- The copies of the script's first k names. -/
def Copies (G n k : Nat) (cv : Nat → Value) (sp : Nat → Option Addr) (sl sc : Nat → Nat) (ss : Nat → ByteArray) (w : World) : Prop :=
  w.rowIs G 33 n (fun i => if i < k then cv i else .slice none 0 0) ∧
  ∀ i, i < k → Reads (fun b => b < w.heap.size ∧ b ≠ G) w (cv i) (ss i) ∧ Value.isNilSlice (cv i) = Value.isNilSlice (.slice (sp i) (sl i) (sc i))

theorem Copies.step {G n k : Nat} {cv : Nat → Value} {sp : Nat → Option Addr} {sl sc : Nat → Nat} {ss : Nat → ByteArray} {w w' : World} {v : Value} (h : Copies G n k cv sp sl sc ss w) (hb : Below w.heap.size w w')
    (hr : Reads (fun b => w.heap.size ≤ b ∧ b < w'.heap.size) w' v (ss k)) (hnil : Value.isNilSlice v = Value.isNilSlice (.slice (sp k) (sl k) (sc k))) :
    Copies G n (k + 1) (fun i => if i = k then v else cv i) sp sl sc ss (w'.setCell ⟨G, k, none⟩ v) := by
  have hG := h.1.lt
  refine ⟨((h.1.of_block (hb.block G hG)).set k v).congr ?_, ?_⟩
  · intro i hi
    by_cases e : i = k
    · subst e; rw [if_pos rfl, if_pos (by omega)]; simp
    · rw [if_neg e]
      by_cases hlt : i < k
      · rw [if_pos hlt, if_pos (by omega)]; simp [e]
      · rw [if_neg hlt, if_neg (by omega)]
  · intro i hi
    by_cases e : i = k
    · subst e
      simp only [if_pos]
      refine ⟨hr.kept fun b hb1 => ⟨⟨by simpa using hb1.2, by omega⟩, ?_⟩, hnil⟩
      exact heap_setCell_other _ _ _ _ (by have := hb1.1; show b ≠ G; omega)
    · simp only [if_neg e]
      obtain ⟨h1, h2⟩ := h.2 i (by omega)
      refine ⟨h1.kept fun b hb1 => ⟨⟨by have := hb.size; simp; omega, hb1.2⟩, ?_⟩, h2⟩
      rw [heap_setCell_other _ _ _ _ (show b ≠ G from hb1.2)]
      exact hb.block b hb1.1

theorem Copies.below {G n k : Nat} {cv : Nat → Value} {sp : Nat → Option Addr} {sl sc : Nat → Nat} {ss : Nat → ByteArray} {w w' : World} (h : Copies G n k cv sp sl sc ss w) (hb : Below w.heap.size w w') : Copies G n k cv sp sl sc ss w' := by
  have hG := h.1.lt
  refine ⟨h.1.of_block (hb.block G hG), fun i hi => ?_⟩
  obtain ⟨h1, h2⟩ := h.2 i hi
  exact ⟨h1.kept fun b hb1 => ⟨⟨by have := hb.size; omega, hb1.2⟩, hb.block b hb1.1⟩, h2⟩

/-- The fresh builder. -/
theorem St.start (w : World) : St w.heap.size (w.heap.size + 1 + 1) (w.heap.size + 1) w.heap.size (.slice none 0 0) (.slice none 0 0) (.slice none 0 0) []
    (((w.alloc (.map #[] 0)).alloc (.cells #[.slice none 0 0, .map (some w.heap.size), .slice none 0 0, .slice none 0 0, .slice none 0 0, .int .i64 0, .string ⟨#[]⟩, .bool false] 53)).alloc
        (.cells #[.pointer (some ⟨w.heap.size + 1, 0, none⟩), .nilFunc, .int .i32 0, .int .i64 0, .slice none 0 0, .slice none 0 0, .nilIface, .int .i64 0] 48)) := by
  refine ⟨⟨?_, ?_, World.ownsRow_nil _ _ _ _, World.ownsRow_nil _ _ _ _, ⟨.map [], Dict.empty, ?_⟩, by omega, by omega, by omega⟩, World.ownsRow_nil _ _ _ _, fun g hg => by simp [Value.ownBlock] at hg⟩
  · have := heap_alloc_new ((w.alloc (.map #[] 0)).alloc (.cells #[.slice none 0 0, .map (some w.heap.size), .slice none 0 0, .slice none 0 0, .slice none 0 0, .int .i64 0, .string ⟨#[]⟩, .bool false] 53)) (.cells #[.pointer (some ⟨w.heap.size + 1, 0, none⟩), .nilFunc, .int .i32 0, .int .i64 0, .slice none 0 0, .slice none 0 0, .nilIface, .int .i64 0] 48)
    simpa using this
  · rw [heap_alloc_old _ _ (by simp)]
    have := heap_alloc_new (w.alloc (.map #[] 0)) (.cells #[.slice none 0 0, .map (some w.heap.size), .slice none 0 0, .slice none 0 0, .slice none 0 0, .int .i64 0, .string ⟨#[]⟩, .bool false] 53)
    simpa using this
  · exact ((World.ownsMap_made w Yba.prog 9 (plainElem Yba.prog 21)).alloc _).alloc _

theorem nodup_at {ms : List ByteArray} (h : ms.Nodup) {i j : Nat} {s : ByteArray} (hi : ms[i]? = some s) (hj : j < i) : ms.getD j ByteArray.empty ≠ s := by
  have hil := (List.getElem?_eq_some_iff.1 hi)
  obtain ⟨hil, he⟩ := hil
  have := List.pairwise_iff_getElem.1 h j i (by omega) hil hj
  rw [he] at this
  simpa [List.getD_eq_getElem?_getD, List.getElem?_eq_getElem (show j < ms.length by omega)] using this

theorem not_mem_at {ms : List ByteArray} {s : ByteArray} (h : s ∉ ms) (i : Nat) (hi : i < ms.length) : ms.getD i ByteArray.empty ≠ s := by
  intro e
  apply h
  rw [← e, List.getD_eq_getElem?_getD, List.getElem?_eq_getElem hi]
  simp

theorem nodup_snoc {ms : List ByteArray} {s : ByteArray} (h : ms.Nodup) (hs : s ∉ ms) : (ms ++ [s]).Nodup := by
  rw [List.nodup_append]
  exact ⟨h, by simp, fun a ha b hb e => hs (by simp at hb; rw [← hb, ← e]; exact ha)⟩

theorem sized_snoc {ms : List ByteArray} {s : ByteArray} {M : Nat} (h : ∀ x ∈ ms, x.size ≤ M) (hs : s.size ≤ M) : ∀ x ∈ ms ++ [s], x.size ≤ M := by
  intro x hx
  simp at hx
  rcases hx with hx | rfl
  · exact h x hx
  · exact hs

theorem run_neq_func (w : World) : (binOp .neq 41 .nilFunc .nilFunc).run Yba.prog w = .ok (.bool false) w := by kernel_rfl
theorem run_neq_iface (w : World) : (binOp .neq 46 .nilIface .nilIface).run Yba.prog w = .ok (.bool false) w := by kernel_rfl

theorem isNil_same {p q : Option Addr} {l c l' c' : Nat} (h : Value.isNilSlice (.slice p l c) = Value.isNilSlice (.slice q l' c')) : p.isNone = q.isNone := by
  cases p <;> cases q <;> simp_all [Value.isNilSlice]

set_option maxHeartbeats 4000000 in
set_option maxRecDepth 100000 in
theorem lawB_main (ps : Option Addr) (n cap : Nat) (sp : Nat → Option Addr) (sl sc : Nat → Nat) (ss : Nat → ByteArray) (np : Option Addr) (nl nc : Nat) (ns : ByteArray) (w : World) (hn : n ≤ 4096)
    (htot : nl + n + sumTo sl n ≤ 1048576) (h : Script w ps n sp sl sc ss) (hname : Reads (Under w.heap.size) w (.slice np nl nc) ns) (hns : ns.size = nl) :
    Calls Yba.prog 4 #[.slice ps n cap, .slice np nl nc] w fun e w' => e = .returned (.bool true) ∧ Below w.heap.size w w' := by
  have H : Hid (Script w ps n sp sl sc ss) := h
  have HT : Hid (nl + n + sumTo sl n ≤ 1048576) := htot
  have HN : Hid (Reads (Under w.heap.size) w (.slice np nl nc) ns) := hname
  have HNS : Hid (ns.size = nl) := hns
  have HS : Hid (∀ k, k ≤ n → sumTo sl k ≤ 1048576) := fun k hk => by have := sumTo_mono sl hk; omega
  have HL : Hid (∀ i, i < n → (ss i).size ≤ 1048576) := fun i hi => by rw [h.size i hi]; have := sumTo_ge sl hi; omega
  clear h hname hns
  have hnl : nl ≤ 1048576 := by omega
  clear htot
  have hn1 : (n : Int) ≤ 4096 := by omega
  have hnl1 : (nl : Int) ≤ 1048576 := by omega
  have hmk := run_make33 n hn
  go_enter Yba.func4, Yba.ntmps4
  go_wp2
  go_loop [5, 31] (fun vt vi => ∃ (k : Nat), k ≤ n ∧ vi = .int .i64 k ∧ vt = .int .i64 ((nl + n + sumTo sl k : Nat) : Int)) (fun _ vi => n - (intOf vi).toNat)
  case atStart => exact ⟨0, Nat.zero_le _, rfl, by simp [sumTo]⟩
  case round =>
    obtain ⟨k, hk, rfl, rfl⟩ := hrel
    have hk2 := HS.out k hk
    have hk3 : ((nl + n + sumTo sl k : Nat) : Int) ≤ 1000000000000000000 := by omega
    have hk4 : 0 ≤ ((nl + n + sumTo sl k : Nat) : Int) := by omega
    by_cases hkn : k < n
    · obtain ⟨b, off, rfl, hb, hc⟩ := H.out.cell k hkn
      have hk1 : (k : Int) < (n : Int) := by omega
      have hk0 : (0 : Int) ≤ (k : Int) := by omega
      have hk5 := sumTo_ge sl hkn
      have hk8 := HS.out n (Nat.le_refl _)
      have hk6 : (sl k : Int) ≤ 140737488355328 := by omega
      have hk7 : (0 : Int) ≤ (sl k : Int) := by omega
      generalize hT : nl + n + sumTo sl k = T at *
      have HTT : Hid (nl + n + sumTo sl k = T) := hT
      clear hT hk5 hk8
      go_wp2
      go_round
      case rel => go_light; exact ⟨k + 1, by omega, by go_num, by have := HTT.out; simp only [sumTo]; go_num⟩
      case measure => simp [intOf]; omega
    · obtain rfl : k = n := by omega
      have ht : ((nl + k + sumTo sl k : Nat) : Int) ≤ 1048576 := by have := HT.out; omega
      generalize nl + k + sumTo sl k = T at *
      clear hk2 hk3 hkn hk
      go_wp2_with fail
      refine (clone_any _ ns w HN.out (by rw [HNS.out]; omega)).mono ?_
      rintro e w1 ⟨v1, rfl, hr1, hni1, hb1⟩
      obtain ⟨p1, l1, c1, rfl⟩ := hr1.form
      have HR1 : Hid (Reads (fun b => w.heap.size ≤ b ∧ b < w1.heap.size) w1 (.slice p1 l1 c1) ns) := hr1
      have HNI : Hid (Value.isNilSlice (.slice p1 l1 c1) = Value.isNilSlice (.slice np nl nc)) := hni1
      have HB1 : Hid (Below w.heap.size w w1) := hb1
      clear hr1 hni1 hb1
      go_wp2
      go_loopw [54] (fun vi wr => ∃ (k' : Nat) (cv : Nat → Value), k' ≤ k ∧ vi = .int .i64 k' ∧ Hid (Copies w1.heap.size k k' cv sp sl sc ss wr ∧ Below w1.heap.size w1 wr)) (fun vi _ => k - (intOf vi).toNat)
      case atStart => exact ⟨0, fun _ => .slice none 0 0, Nat.zero_le _, rfl, ⟨(World.rowIs_made _ _ _ _).congr fun i _ => by rw [if_neg (by omega)], fun i hi => by omega⟩, (Below.refl _ _).alloc (Nat.le_refl _) _⟩
      case round =>
        obtain ⟨k2, cv, hk2, rfl, HC⟩ := hrel
        by_cases hkn : k2 < k
        · have hs1 := HB1.out.size
          obtain ⟨b, off, rfl, hb, hc⟩ := H.out.cell k2 hkn
          have hk1 : (k2 : Int) < (k : Int) := by omega
          have hk0 : (0 : Int) ≤ (k2 : Int) := by omega
          have hc1 : wr.cell? ⟨b, off + k2, none⟩ = some (.slice (sp k2) (sl k2) (sc k2)) := by
            rw [HC.out.2.cell (p := ⟨b, off + k2, none⟩) (show b < _ by omega), HB1.out.cell (p := ⟨b, off + k2, none⟩) hb, hc]
          have hrd : Reads (Under w.heap.size) wr (.slice (sp k2) (sl k2) (sc k2)) (ss k2) := (H.out.reads k2 hkn).kept fun b hb => ⟨hb, (HC.out.2.block b (by have : b < w.heap.size := hb; omega)).trans (HB1.out.block b hb)⟩
          go_wp2_with fail
          refine (clone_any _ (ss k2) wr hrd (HL.out k2 hkn)).mono ?_
          rintro e w2 ⟨v2, rfl, hr2, hni2, hb2⟩
          obtain ⟨p2, l2, c2, rfl⟩ := hr2.form
          have g0 : w2.cell? ⟨w1.heap.size, k2, none⟩ = some (.slice none 0 0) := by rw [(HC.out.1.1.of_block (hb2.block _ HC.out.1.1.lt)).cell hkn, if_neg (by omega)]
          have g1 : w2.frozen? ⟨w1.heap.size, k2, none⟩ = false := (HC.out.1.1.of_block (hb2.block _ HC.out.1.1.lt)).frozen _
          have HS2 : Hid (Copies w1.heap.size k (k2 + 1) (fun i => if i = k2 then .slice p2 l2 c2 else cv i) sp sl sc ss (w2.setCell ⟨w1.heap.size, k2, none⟩ (.slice p2 l2 c2)) ∧ Below w1.heap.size w1 (w2.setCell ⟨w1.heap.size, k2, none⟩ (.slice p2 l2 c2))) :=
            ⟨HC.out.1.step hb2 hr2 hni2, (HC.out.2.trans (hb2.mono HC.out.2.size)).setCell (Nat.le_refl _) _⟩
          clear hr2 hni2 hb2 hrd hc hc1
          go_wp2
          go_roundw
          case rel => go_light; exact ⟨k2 + 1, _, by omega, by go_num, HS2.out⟩
          case measure => simp [intOf]; omega
        · obtain rfl : k2 = k := by omega
          clear hkn hk2
          obtain ⟨w2, rfl⟩ : ∃ w2 : World, w2 = wr := ⟨_, rfl⟩
          have HB2 : Hid (Below w.heap.size w w2) := HB1.out.trans (HC.out.2.mono HB1.out.size)
          go_wp2_with fail
          refine (newBuilder_any w2).mono ?_
          rintro e wb ⟨rfl, hwb⟩
          have HSt : Hid (St w2.heap.size (w2.heap.size + 1 + 1) (w2.heap.size + 1) w2.heap.size (.slice none 0 0) (.slice none 0 0) (.slice none 0 0) [] wb) := by rw [hwb]; exact St.start w2
          have HBb : Hid (Below w2.heap.size w2 wb) := by rw [hwb]; exact (((Below.refl _ _).alloc (Nat.le_refl _) _).alloc (by simp) _).alloc (by simp; omega) _
          clear hwb
          go_wp2
          go_loopw [13, 68] (fun vm vi wr => ∃ (j : Nat) (ms : List ByteArray) (vk vh : Value), j ≤ k2 ∧ vi = .int .i64 j ∧ Hid (St w2.heap.size (w2.heap.size + 1 + 1) (w2.heap.size + 1) w2.heap.size vk vh vm ms wr ∧ (ms.Nodup ∧ ∀ x ∈ ms, x.size ≤ 1048576) ∧ ms.length ≤ j ∧ Below w2.heap.size w2 wr)) (fun _ vi _ => k2 - (intOf vi).toNat)
          case atStart => exact ⟨0, [], _, _, Nat.zero_le _, rfl, HSt.out, ⟨List.nodup_nil, by simp⟩, Nat.zero_le _, HBb.out⟩
          case round =>
            obtain ⟨j, ms, vk, vh, hj, rfl, HL3⟩ := hrel
            obtain ⟨pm, cm, rfl⟩ := ownsRow_form HL3.out.1.mod
            have hlm : ms.length ≤ 4096 := by have := HL3.out.2.2.1; omega
            have hlm1 : (ms.length : Int) ≤ 4096 := by omega
            have hlm0 : (0 : Int) ≤ (ms.length : Int) := by omega
            have hs2 := HB2.out.size
            by_cases hkn : j < k2
            · obtain ⟨b, off, rfl, hb, hc⟩ := H.out.cell j hkn
              have hk1 : (j : Int) < (k2 : Int) := by omega
              have hk0 : (0 : Int) ≤ (j : Int) := by omega
              have hc1 : wr.cell? ⟨b, off + j, none⟩ = some (.slice (sp j) (sl j) (sc j)) := by
                rw [HL3.out.2.2.2.cell (p := ⟨b, off + j, none⟩) (show b < _ by omega), HB2.out.cell (p := ⟨b, off + j, none⟩) hb, hc]
              have hrd : Reads (Under w2.heap.size) wr (.slice (sp j) (sl j) (sc j)) (ss j) := (H.out.reads j hkn).kept fun b hb => ⟨by have : b < w.heap.size := hb; show b < _; omega, (HL3.out.2.2.2.block b (by have : b < w.heap.size := hb; omega)).trans (HB2.out.block b hb)⟩
              have HRD : Hid (Reads (Under w2.heap.size) wr (.slice (sp j) (sl j) (sc j)) (ss j)) := hrd
              have hconv := hrd.conv
              have hsj := HL.out j hkn
              clear hrd hc
              by_cases hmem : ss j ∈ ms
              · obtain ⟨i, hi⟩ := List.getElem?_of_mem hmem
                have hil := (List.getElem?_eq_some_iff.1 hi).1
                obtain ⟨gm, rfl, _⟩ := HL3.out.1.cell rfl i hil
                have hfind := find_hit gm ms.length cm i (fun i => ms.getD i ByteArray.empty) (ss j) wr (by omega) hil (fun a ha => by obtain ⟨g', e, h⟩ := HL3.out.1.cell rfl a ha; cases e; exact h)
                  (by show ms.getD i _ = _; rw [List.getD_eq_getElem?_getD, hi]; rfl) (fun a ha => nodup_at HL3.out.2.1.1 hi ha)
                have hkey := key_old _ _ _ _ _ _ ms i _ (ss j) wr HL3.out.1.log hi hsj HRD.out
                have hi1 : (i : Int) < (ms.length : Int) := by omega
                have hi0 : (0 : Int) ≤ (i : Int) := by omega
                go_wp2_with fail
                refine hfind.mono ?_
                rintro e w3 ⟨rfl, rfl⟩
                go_wp2_with fail
                refine hkey.mono ?_
                rintro e w4 ⟨rfl, q, rfl⟩
                go_wp2
                go_roundw
                case rel => go_light; exact ⟨j + 1, ms, vk, vh, by omega, by go_num, HL3.out.1.heap rfl, HL3.out.2.1, by have := HL3.out.2.2.1; omega, below_drewN HL3.out.2.2.2 _⟩
                case measure => simp [intOf]; omega
              · obtain ⟨gm, cm2, w3, hrun, L3, own3, sep3, bel3⟩ := HL3.out.1.grow (by omega) (ss j)
                have hfind := find_miss pm ms.length cm (fun i => ms.getD i ByteArray.empty) (ss j) wr (by omega) (fun a ha => HL3.out.1.cell rfl a ha) (fun a ha => not_mem_at hmem a ha)
                have hkey := key_new _ _ _ _ _ _ ms _ (ss j) w3 L3 hmem hsj (by omega) (HRD.out.below bel3 (Nat.le_refl _))
                have HRUN : Hid ((Builtin.append_ #[37, 37] 37 #[.slice pm ms.length cm, .slice (some ⟨wr.heap.size, 0, none⟩) 1 1]).run Yba.prog (wr.alloc (.cells #[.string (ss j)] 9)) = .ok (.slice (some ⟨gm, 0, none⟩) (ms.length + 1) cm2) w3) := hrun
                have HL : Hid (LogSt w2.heap.size (w2.heap.size + 1 + 1) (w2.heap.size + 1) w2.heap.size vk vh ms w3 ∧ w3.ownsRow w2.heap.size 9 1 (.slice (some ⟨gm, 0, none⟩) (ms.length + 1) cm2) (ms ++ [ss j]).length ((ms ++ [ss j]).map Value.string) ∧ some gm ≠ vk.ownBlock ∧ Below w2.heap.size wr w3) := ⟨L3, own3, sep3, bel3⟩
                have HM : Hid (ss j ∉ ms) := hmem
                clear hrun L3 own3 sep3 bel3 hmem
                go_wp2_with fail
                refine hfind.mono ?_
                rintro e w4 ⟨rfl, rfl⟩
                go_wp2_with (at_builtin; refine wpList_append_run rfl (.tmp 80) (.tmp 83) 37 rfl _ _ _ _ rfl rfl HRUN.out ?_)
                refine hkey.mono ?_
                rintro e w5 ⟨rfl, gk, ck, gh, ch, L4, bel4, hfr, hloc, _⟩
                have HFIN : Hid (St w2.heap.size (w2.heap.size + 1 + 1) (w2.heap.size + 1) w2.heap.size (.slice (some ⟨gk, 0, none⟩) (ms.length + 1) ck) (.slice (some ⟨gh, 0, none⟩) (ms.length + 1) ch) (.slice (some ⟨gm, 0, none⟩) (ms.length + 1) cm2) (ms ++ [ss j]) w5 ∧ ((ms ++ [ss j]).Nodup ∧ ∀ x ∈ ms ++ [ss j], x.size ≤ 1048576) ∧ (ms ++ [ss j]).length ≤ j + 1 ∧ Below w2.heap.size w2 w5) :=
                  ⟨St.keyed HL.out.1 HL.out.2.1 HL.out.2.2.1 L4 hfr hloc, ⟨nodup_snoc HL3.out.2.1.1 HM.out, sized_snoc HL3.out.2.1.2 hsj⟩, by have := HL3.out.2.2.1; simp; omega, (HL3.out.2.2.2.trans HL.out.2.2.2).trans bel4⟩
                clear L4 bel4 hfr hloc
                go_wp2
                go_roundw
                case rel => go_light; exact ⟨j + 1, ms ++ [ss j], _, _, by omega, by go_num, HFIN.out⟩
                case measure => simp [intOf]; omega
            · obtain rfl : j = k2 := by omega
              have hrd : Reads (Under w2.heap.size) wr (.slice np nl nc) ns := HN.out.kept fun b hb => ⟨by have : b < w.heap.size := hb; show b < _; omega, (HL3.out.2.2.2.block b (by have : b < w.heap.size := hb; omega)).trans (HB2.out.block b hb)⟩
              have HRD : Hid (Reads (Under w2.heap.size) wr (.slice np nl nc) ns) := hrd
              have hconv := hrd.conv
              have hsj : ns.size ≤ 1048576 := by rw [HNS.out]; omega
              clear hrd hkn
              by_cases hmem : ns ∈ ms
              · obtain ⟨i, hi⟩ := List.getElem?_of_mem hmem
                have hil := (List.getElem?_eq_some_iff.1 hi).1
                obtain ⟨gm, rfl, _⟩ := HL3.out.1.cell rfl i hil
                have hfind := find_hit gm ms.length cm i (fun i => ms.getD i ByteArray.empty) ns wr (by omega) hil (fun a ha => by obtain ⟨g', e, h⟩ := HL3.out.1.cell rfl a ha; cases e; exact h)
                  (by show ms.getD i _ = _; rw [List.getD_eq_getElem?_getD, hi]; rfl) (fun a ha => nodup_at HL3.out.2.1.1 hi ha)
                have hkey := key_old _ _ _ _ _ _ ms i _ ns wr HL3.out.1.log hi hsj HRD.out
                have hi1 : (i : Int) < (ms.length : Int) := by omega
                have hi0 : (0 : Int) ≤ (i : Int) := by omega
                go_wp2_with fail
                refine hfind.mono ?_
                rintro e w3 ⟨rfl, rfl⟩
                go_wp2_with fail
                refine hkey.mono ?_
                rintro e w4 ⟨rfl, q, rfl⟩
                obtain ⟨wz, hwz⟩ : ∃ wz : World, wz = w3.drewN q := ⟨_, rfl⟩
                rw [← hwz]
                have HZ : Hid (St w2.heap.size (w2.heap.size + 1 + 1) (w2.heap.size + 1) w2.heap.size vk vh (.slice (some ⟨gm, 0, none⟩) ms.length cm) ms wz ∧ 0 < ms.length ∧ ms.length ≤ 4097 ∧ Below w2.heap.size w2 wz ∧ ∀ x ∈ ms, x.size ≤ 1048576) := by rw [hwz]; exact ⟨HL3.out.1.heap rfl, by omega, by omega, below_drewN HL3.out.2.2.2 _, HL3.out.2.1.2⟩
                clear hwz hfind hkey hconv

                obtain ⟨gk, ck, rfl⟩ := owned_form HZ.out.1.log.keys HZ.out.2.1
                obtain ⟨gh, ch, rfl⟩ := owned_form HZ.out.1.log.hosts HZ.out.2.1
                clear HL3 HRD hlm hlm1 hlm0 hsj hmem
                have hlz : ms.length ≤ 4097 := HZ.out.2.2.1
                have hlz1 : (ms.length : Int) ≤ 4097 := by omega
                have hlz0 : (0 : Int) < (ms.length : Int) := by have := HZ.out.2.1; omega
                generalize hNN : ms.length = N at *
                have HNN : Hid (ms.length = N) := hNN
                clear hNN
                obtain ⟨bb0, bb1, bb2, bb3, bb4, bb5, bb6, bb7, bl0, bl1, bl2, bl3, bl4, bl5, bl6, bl7, _, _, _, hlen, ⟨es, clock, hobj, hes⟩, _⟩ := HZ.out.1.seen HNN.out
                go_wp2
                clear bb0 bb1 bb2 bb3 bb4 bb5 bb6 bb7 bl0 bl1 bl2 bl3 bl4 bl5 bl6 bl7 hlen hobj hes
                go_loopw [19] (fun vi wr => ∃ l : Nat, l ≤ N ∧ vi = .int .i64 l ∧ Hid (St w2.heap.size (w2.heap.size + 1 + 1) (w2.heap.size + 1) w2.heap.size (.slice (some ⟨gk, 0, none⟩) N ck) (.slice (some ⟨gh, 0, none⟩) N ch) (.slice (some ⟨gm, 0, none⟩) N cm) ms wr ∧ Below w2.heap.size w2 wr)) (fun vi _ => N - (intOf vi).toNat)
                case atStart => exact ⟨0, Nat.zero_le _, rfl, HZ.out.1, HZ.out.2.2.2.1⟩
                case round =>
                  obtain ⟨l, hl, rfl, HX⟩ := hrel
                  obtain ⟨bb0, bb1, bb2, bb3, bb4, bb5, bb6, bb7, bl0, bl1, bl2, bl3, bl4, bl5, bl6, bl7, hkc, hmc, hhc, _, _, hlk⟩ := HX.out.1.seen HNN.out
                  by_cases hlN : l < N
                  · have hl1 : (l : Int) < (N : Int) := by omega
                    have hl0 : (0 : Int) ≤ (l : Int) := by omega
                    have k1 := hkc l hlN
                    have m1 := hmc l hlN
                    have hx : (ms.getD l ByteArray.empty).size ≤ 1048576 := by
                      have hlm : l < ms.length := by rw [HNN.out]; exact hlN
                      refine HZ.out.2.2.2.2 _ ?_
                      rw [List.getD_eq_getElem?_getD, List.getElem?_eq_getElem hlm]
                      simp
                    have HXS : Hid ((ms.getD l ByteArray.empty).size ≤ 1048576) := hx
                    have hself : ((ms.getD l ByteArray.empty).toList != (ms.getD l ByteArray.empty).toList) = false := by simp
                    clear hkc hmc hhc hlk hx bb0 bb1 bb2 bb3 bb4 bb5 bb6 bb7 bl3 bl4 bl5 bl6 bl7
                    generalize hxx : ms.getD l ByteArray.empty = x at *
                    have HXX : Hid (ms.getD l ByteArray.empty = x) := hxx
                    clear hxx
                    go_wp2
                    go_quiet (fail)
                    generalize hwa : wr.drewN _ = wa
                    have HA : Hid (St w2.heap.size (w2.heap.size + 1 + 1) (w2.heap.size + 1) w2.heap.size (.slice (some ⟨gk, 0, none⟩) N ck) (.slice (some ⟨gh, 0, none⟩) N ch) (.slice (some ⟨gm, 0, none⟩) N cm) ms wa ∧ Below w2.heap.size w2 wa) := by rw [← hwa]; exact ⟨HX.out.1.heap rfl, below_drewN HX.out.2 _⟩
                    clear hwa bl0 bl1 bl2 k1 m1 HX
                    obtain ⟨_, _, _, _, _, _, _, _, bl0, bl1, bl2, _, _, _, _, _, _, hmc, _, _, _, _⟩ := HA.out.1.seen HNN.out
                    have m1 := hmc l hlN
                    have look1 : ∀ q1, (Instr.lookup 49 (.map (some w2.heap.size)) (.string x) true).run Yba.prog (wa.drewN q1) = .ok (.tuple #[.int .i32 l, .bool true]) (wa.drewN q1) := fun q1 => by rw [← HXX.out]; exact ((HA.out.1.heap (w' := wa.drewN q1) rfl).seen HNN.out).look l hlN (by rw [HXX.out]; exact HXS.out)
                    have look0 := look1 0
                    rw [HXX.out] at m1
                    clear hmc
                    go_wp2
                    go_quiet (fail)
                    generalize hwc : wa.drewN _ = wc
                    have HC2 : Hid (St w2.heap.size (w2.heap.size + 1 + 1) (w2.heap.size + 1) w2.heap.size (.slice (some ⟨gk, 0, none⟩) N ck) (.slice (some ⟨gh, 0, none⟩) N ch) (.slice (some ⟨gm, 0, none⟩) N cm) ms wc ∧ Below w2.heap.size w2 wc) := by rw [← hwc]; exact ⟨HA.out.1.heap rfl, below_drewN HA.out.2 _⟩
                    clear hwc bl0 bl1 bl2 m1 HA look1 look0
                    obtain ⟨_, _, _, _, _, _, _, _, bl0, bl1, bl2, _, _, _, _, _, _, _, hhc, _, _, _⟩ := HC2.out.1.seen HNN.out
                    have g0 : wc.cell? ⟨gh, l * 9, none⟩ = some (.int .i32 l) := hhc l 0 hlN (by omega)
                    have g1 : wc.cell? ⟨gh, l * 9 + 1, none⟩ = some (.int .i64 0) := hhc l 1 hlN (by omega)
                    have g2 : wc.cell? ⟨gh, l * 9 + 2, none⟩ = some (.slice none 0 0) := hhc l 2 hlN (by omega)
                    have g3 : wc.cell? ⟨gh, l * 9 + 3, none⟩ = some (.slice none 0 0) := hhc l 3 hlN (by omega)
                    have g4 : wc.cell? ⟨gh, l * 9 + 4, none⟩ = some (.slice none 0 0) := hhc l 4 hlN (by omega)
                    have g5 : wc.cell? ⟨gh, l * 9 + 5, none⟩ = some (.slice none 0 0) := hhc l 5 hlN (by omega)
                    have g6 : wc.cell? ⟨gh, l * 9 + 6, none⟩ = some (.bool false) := hhc l 6 hlN (by omega)
                    have g7 : wc.cell? ⟨gh, l * 9 + 7, none⟩ = some (.slice none 0 0) := hhc l 7 hlN (by omega)
                    have g8 : wc.cell? ⟨gh, l * 9 + 8, none⟩ = some (.slice none 0 0) := hhc l 8 hlN (by omega)
                    clear hhc
                    go_wp2
                    go_roundw
                    case rel => go_light; exact ⟨l + 1, by omega, by go_num, HC2.out.1.later ((Below.refl _ _).alloc (Nat.le_refl _) _), HC2.out.2.alloc HC2.out.2.size _⟩
                    case measure => simp [intOf]; omega
                  · clear hkc hmc hhc hlk
                    have hs2 := HB2.out.size
                    have hrn : ∀ q, Reads (Under w.heap.size) (wr.drewN q) (.slice np nl nc) ns := fun q => HN.out.kept fun b hb => ⟨hb, (HX.out.2.block b (by have : b < w.heap.size := hb; omega)).trans (HB2.out.block b hb)⟩
                    have hrc : ∀ q, Reads (fun b => b < w1.heap.size) (wr.drewN q) (.slice p1 l1 c1) ns := fun q => HR1.out.kept fun b hb => ⟨hb.2, (HX.out.2.block b (by have := HC.out.2.size; omega)).trans (HC.out.2.block b hb.2)⟩
                    have hnn : np.isNone = p1.isNone := (isNil_same HNI.out).symm
                    have hsame := same_yes np p1 nl nc l1 c1 ns wr hnn (hrn 0).conv (hrc 0).conv
                    have hnf := run_neq_func
                    have hni := run_neq_iface
                    clear hrn hrc
                    go_wp2_with fail
                    refine hsame.mono ?_
                    rintro e w6 ⟨rfl, rfl⟩
                    clear hsame hnf hni bb0 bb1 bb2 bb3 bb4 bb5 bb6 bb7 bl0 bl1 bl2 bl3 bl4 bl5 bl6 bl7
                    go_wp2
                    go_loopw [23] (fun vi wx => ∃ l5 : Nat, l5 ≤ j ∧ vi = .int .i64 l5 ∧ Hid (Below w2.heap.size w2 wx)) (fun vi _ => j - (intOf vi).toNat)
                    case atStart => exact ⟨0, Nat.zero_le _, rfl, HX.out.2⟩
                    case round =>
                      obtain ⟨l5, hl5, rfl, HY⟩ := hrel
                      by_cases hlj : l5 < j
                      · have hj1 : (l5 : Int) < (j : Int) := by omega
                        have hj0 : (0 : Int) ≤ (l5 : Int) := by omega
                        obtain ⟨b, off, rfl, hb, hc⟩ := H.out.cell l5 hlj
                        have hc1 : wr.cell? ⟨b, off + l5, none⟩ = some (.slice (sp l5) (sl l5) (sc l5)) := by
                          rw [HY.out.cell (p := ⟨b, off + l5, none⟩) (show b < _ by omega), HB2.out.cell (p := ⟨b, off + l5, none⟩) hb, hc]
                        have hcop := (HC.out.1.below HY.out)
                        obtain ⟨hrc, hni⟩ := hcop.2 l5 hlj
                        have hcc := hcop.1.cell hlj
                        rw [if_pos hlj] at hcc
                        obtain ⟨p5, le5, ca5, hcv⟩ := hrc.form
                        rw [hcv] at hrc hni hcc
                        have hnn5 : (sp l5).isNone = p5.isNone := (isNil_same hni).symm
                        have v1 : ∀ q, (convert 33 9 (.slice (sp l5) (sl l5) (sc l5))).run Yba.prog (wr.drewN q) = .ok (.string (ss l5)) (wr.drewN q) := fun q => Reads.conv ((H.out.reads l5 hlj).kept (S' := Under w.heap.size) fun b hb => ⟨hb, (HY.out.block b (by have : b < w.heap.size := hb; omega)).trans (HB2.out.block b hb)⟩)
                        have v2 : ∀ q, (convert 33 9 (.slice p5 le5 ca5)).run Yba.prog (wr.drewN q) = .ok (.string (ss l5)) (wr.drewN q) := fun q => Reads.conv (hrc.kept (S' := fun _ => True) fun b hb => ⟨trivial, rfl⟩)
                        clear hrc hni hcop hc hcv
                        go_wp2
                        go_quiet ((go_at_call 11; exact Calls.quiet_of_same (same_yes _ _ _ _ _ _ (ss l5) _ hnn5 (v1 _) (v2 _))))
                        go_wp2
                        go_roundw
                        case rel => go_light; exact ⟨l5 + 1, by omega, by go_num, below_drewN HY.out _⟩
                        case measure => simp [intOf]; omega
                      · go_wp2
                        go_ret
                        exact ⟨rfl, HB2.out.trans (HY.out.mono (by have := HB2.out.size; omega))⟩
              · obtain ⟨gm, cm2, w3, hrun, L3, own3, sep3, bel3⟩ := HL3.out.1.grow (by omega) ns
                have hfind := find_miss pm ms.length cm (fun i => ms.getD i ByteArray.empty) ns wr (by omega) (fun a ha => HL3.out.1.cell rfl a ha) (fun a ha => not_mem_at hmem a ha)
                have hkey := key_new _ _ _ _ _ _ ms _ ns w3 L3 hmem hsj (by omega) (HRD.out.below bel3 (Nat.le_refl _))
                have HRUN : Hid ((Builtin.append_ #[37, 37] 37 #[.slice pm ms.length cm, .slice (some ⟨wr.heap.size, 0, none⟩) 1 1]).run Yba.prog (wr.alloc (.cells #[.string ns] 9)) = .ok (.slice (some ⟨gm, 0, none⟩) (ms.length + 1) cm2) w3) := hrun
                have HL0 : Hid (LogSt w2.heap.size (w2.heap.size + 1 + 1) (w2.heap.size + 1) w2.heap.size vk vh ms w3 ∧ w3.ownsRow w2.heap.size 9 1 (.slice (some ⟨gm, 0, none⟩) (ms.length + 1) cm2) (ms ++ [ns]).length ((ms ++ [ns]).map Value.string) ∧ some gm ≠ vk.ownBlock ∧ Below w2.heap.size wr w3) := ⟨L3, own3, sep3, bel3⟩
                clear hrun L3 own3 sep3 bel3
                go_wp2_with fail
                refine hfind.mono ?_
                rintro e w4 ⟨rfl, rfl⟩
                go_wp2_with (at_builtin; refine wpList_append_run rfl (.tmp 100) (.tmp 103) 37 rfl _ _ _ _ rfl rfl HRUN.out ?_)
                refine hkey.mono ?_
                rintro e wz ⟨rfl, gk, ck, gh, ch, L4, bel4, hfr, hloc, _⟩
                obtain ⟨ms2, hms2⟩ : ∃ ms2, ms2 = ms ++ [ns] := ⟨_, rfl⟩
                have HZ : Hid (St w2.heap.size (w2.heap.size + 1 + 1) (w2.heap.size + 1) w2.heap.size (.slice (some ⟨gk, 0, none⟩) (ms.length + 1) ck) (.slice (some ⟨gh, 0, none⟩) (ms.length + 1) ch) (.slice (some ⟨gm, 0, none⟩) (ms.length + 1) cm2) ms2 wz ∧ 0 < ms.length + 1 ∧ ms.length + 1 ≤ 4097 ∧ Below w2.heap.size w2 wz ∧ ∀ x ∈ ms2, x.size ≤ 1048576) := by
                  rw [hms2]
                  exact ⟨St.keyed HL0.out.1 HL0.out.2.1 HL0.out.2.2.1 L4 hfr hloc, by omega, by omega, (HL3.out.2.2.2.trans HL0.out.2.2.2).trans bel4, sized_snoc HL3.out.2.1.2 hsj⟩
                have HNN0 : Hid (ms2.length = ms.length + 1) := (show ms2.length = ms.length + 1 by rw [hms2]; simp)
                have hlz : ms.length + 1 ≤ 4097 := HZ.out.2.2.1
                have hlz1 : ((ms.length + 1 : Nat) : Int) ≤ 4097 := by omega
                have hlz0 : (0 : Int) < ((ms.length + 1 : Nat) : Int) := by omega
                clear L4 bel4 hfr hloc hms2 hfind hkey hconv HRUN HL0 HL3 HRD hsj hmem
                generalize hNN : ms.length + 1 = N at *
                have HNN : Hid (ms2.length = N) := HNN0
                clear hNN HNN0
                obtain ⟨bb0, bb1, bb2, bb3, bb4, bb5, bb6, bb7, bl0, bl1, bl2, bl3, bl4, bl5, bl6, bl7, _, _, _, hlen, ⟨es, clock, hobj, hes⟩, _⟩ := HZ.out.1.seen HNN.out
                go_wp2
                clear bb0 bb1 bb2 bb3 bb4 bb5 bb6 bb7 bl0 bl1 bl2 bl3 bl4 bl5 bl6 bl7 hlen hobj hes
                go_loopw [19] (fun vi wr => ∃ l : Nat, l ≤ N ∧ vi = .int .i64 l ∧ Hid (St w2.heap.size (w2.heap.size + 1 + 1) (w2.heap.size + 1) w2.heap.size (.slice (some ⟨gk, 0, none⟩) N ck) (.slice (some ⟨gh, 0, none⟩) N ch) (.slice (some ⟨gm, 0, none⟩) N cm2) ms2 wr ∧ Below w2.heap.size w2 wr)) (fun vi _ => N - (intOf vi).toNat)
                case atStart => exact ⟨0, Nat.zero_le _, rfl, HZ.out.1, HZ.out.2.2.2.1⟩
                case round =>
                  obtain ⟨l, hl, rfl, HX⟩ := hrel
                  obtain ⟨bb0, bb1, bb2, bb3, bb4, bb5, bb6, bb7, bl0, bl1, bl2, bl3, bl4, bl5, bl6, bl7, hkc, hmc, hhc, _, _, hlk⟩ := HX.out.1.seen HNN.out
                  by_cases hlN : l < N
                  · have hl1 : (l : Int) < (N : Int) := by omega
                    have hl0 : (0 : Int) ≤ (l : Int) := by omega
                    have k1 := hkc l hlN
                    have m1 := hmc l hlN
                    have hx : (ms2.getD l ByteArray.empty).size ≤ 1048576 := by
                      have hlm : l < ms2.length := by rw [HNN.out]; exact hlN
                      refine HZ.out.2.2.2.2 _ ?_
                      rw [List.getD_eq_getElem?_getD, List.getElem?_eq_getElem hlm]
                      simp
                    have HXS : Hid ((ms2.getD l ByteArray.empty).size ≤ 1048576) := hx
                    have hself : ((ms2.getD l ByteArray.empty).toList != (ms2.getD l ByteArray.empty).toList) = false := by simp
                    clear hkc hmc hhc hlk hx bb0 bb1 bb2 bb3 bb4 bb5 bb6 bb7 bl3 bl4 bl5 bl6 bl7
                    generalize hxx : ms2.getD l ByteArray.empty = x at *
                    have HXX : Hid (ms2.getD l ByteArray.empty = x) := hxx
                    clear hxx
                    go_wp2
                    go_quiet (fail)
                    generalize hwa : wr.drewN _ = wa
                    have HA : Hid (St w2.heap.size (w2.heap.size + 1 + 1) (w2.heap.size + 1) w2.heap.size (.slice (some ⟨gk, 0, none⟩) N ck) (.slice (some ⟨gh, 0, none⟩) N ch) (.slice (some ⟨gm, 0, none⟩) N cm2) ms2 wa ∧ Below w2.heap.size w2 wa) := by rw [← hwa]; exact ⟨HX.out.1.heap rfl, below_drewN HX.out.2 _⟩
                    clear hwa bl0 bl1 bl2 k1 m1 HX
                    obtain ⟨_, _, _, _, _, _, _, _, bl0, bl1, bl2, _, _, _, _, _, _, hmc, _, _, _, _⟩ := HA.out.1.seen HNN.out
                    have m1 := hmc l hlN
                    have look1 : ∀ q1, (Instr.lookup 49 (.map (some w2.heap.size)) (.string x) true).run Yba.prog (wa.drewN q1) = .ok (.tuple #[.int .i32 l, .bool true]) (wa.drewN q1) := fun q1 => by rw [← HXX.out]; exact ((HA.out.1.heap (w' := wa.drewN q1) rfl).seen HNN.out).look l hlN (by rw [HXX.out]; exact HXS.out)
                    have look0 := look1 0
                    rw [HXX.out] at m1
                    clear hmc
                    go_wp2
                    go_quiet (fail)
                    generalize hwc : wa.drewN _ = wc
                    have HC2 : Hid (St w2.heap.size (w2.heap.size + 1 + 1) (w2.heap.size + 1) w2.heap.size (.slice (some ⟨gk, 0, none⟩) N ck) (.slice (some ⟨gh, 0, none⟩) N ch) (.slice (some ⟨gm, 0, none⟩) N cm2) ms2 wc ∧ Below w2.heap.size w2 wc) := by rw [← hwc]; exact ⟨HA.out.1.heap rfl, below_drewN HA.out.2 _⟩
                    clear hwc bl0 bl1 bl2 m1 HA look1 look0
                    obtain ⟨_, _, _, _, _, _, _, _, bl0, bl1, bl2, _, _, _, _, _, _, _, hhc, _, _, _⟩ := HC2.out.1.seen HNN.out
                    have g0 : wc.cell? ⟨gh, l * 9, none⟩ = some (.int .i32 l) := hhc l 0 hlN (by omega)
                    have g1 : wc.cell? ⟨gh, l * 9 + 1, none⟩ = some (.int .i64 0) := hhc l 1 hlN (by omega)
                    have g2 : wc.cell? ⟨gh, l * 9 + 2, none⟩ = some (.slice none 0 0) := hhc l 2 hlN (by omega)
                    have g3 : wc.cell? ⟨gh, l * 9 + 3, none⟩ = some (.slice none 0 0) := hhc l 3 hlN (by omega)
                    have g4 : wc.cell? ⟨gh, l * 9 + 4, none⟩ = some (.slice none 0 0) := hhc l 4 hlN (by omega)
                    have g5 : wc.cell? ⟨gh, l * 9 + 5, none⟩ = some (.slice none 0 0) := hhc l 5 hlN (by omega)
                    have g6 : wc.cell? ⟨gh, l * 9 + 6, none⟩ = some (.bool false) := hhc l 6 hlN (by omega)
                    have g7 : wc.cell? ⟨gh, l * 9 + 7, none⟩ = some (.slice none 0 0) := hhc l 7 hlN (by omega)
                    have g8 : wc.cell? ⟨gh, l * 9 + 8, none⟩ = some (.slice none 0 0) := hhc l 8 hlN (by omega)
                    clear hhc
                    go_wp2
                    go_roundw
                    case rel => go_light; exact ⟨l + 1, by omega, by go_num, HC2.out.1.later ((Below.refl _ _).alloc (Nat.le_refl _) _), HC2.out.2.alloc HC2.out.2.size _⟩
                    case measure => simp [intOf]; omega
                  · clear hkc hmc hhc hlk
                    have hs2 := HB2.out.size
                    have hrn : ∀ q, Reads (Under w.heap.size) (wr.drewN q) (.slice np nl nc) ns := fun q => HN.out.kept fun b hb => ⟨hb, (HX.out.2.block b (by have : b < w.heap.size := hb; omega)).trans (HB2.out.block b hb)⟩
                    have hrc : ∀ q, Reads (fun b => b < w1.heap.size) (wr.drewN q) (.slice p1 l1 c1) ns := fun q => HR1.out.kept fun b hb => ⟨hb.2, (HX.out.2.block b (by have := HC.out.2.size; omega)).trans (HC.out.2.block b hb.2)⟩
                    have hnn : np.isNone = p1.isNone := (isNil_same HNI.out).symm
                    have hsame := same_yes np p1 nl nc l1 c1 ns wr hnn (hrn 0).conv (hrc 0).conv
                    have hnf := run_neq_func
                    have hni := run_neq_iface
                    clear hrn hrc
                    go_wp2_with fail
                    refine hsame.mono ?_
                    rintro e w6 ⟨rfl, rfl⟩
                    clear hsame hnf hni bb0 bb1 bb2 bb3 bb4 bb5 bb6 bb7 bl0 bl1 bl2 bl3 bl4 bl5 bl6 bl7
                    go_wp2
                    go_loopw [23] (fun vi wx => ∃ l5 : Nat, l5 ≤ j ∧ vi = .int .i64 l5 ∧ Hid (Below w2.heap.size w2 wx)) (fun vi _ => j - (intOf vi).toNat)
                    case atStart => exact ⟨0, Nat.zero_le _, rfl, HX.out.2⟩
                    case round =>
                      obtain ⟨l5, hl5, rfl, HY⟩ := hrel
                      by_cases hlj : l5 < j
                      · have hj1 : (l5 : Int) < (j : Int) := by omega
                        have hj0 : (0 : Int) ≤ (l5 : Int) := by omega
                        obtain ⟨b, off, rfl, hb, hc⟩ := H.out.cell l5 hlj
                        have hc1 : wr.cell? ⟨b, off + l5, none⟩ = some (.slice (sp l5) (sl l5) (sc l5)) := by
                          rw [HY.out.cell (p := ⟨b, off + l5, none⟩) (show b < _ by omega), HB2.out.cell (p := ⟨b, off + l5, none⟩) hb, hc]
                        have hcop := (HC.out.1.below HY.out)
                        obtain ⟨hrc, hni⟩ := hcop.2 l5 hlj
                        have hcc := hcop.1.cell hlj
                        rw [if_pos hlj] at hcc
                        obtain ⟨p5, le5, ca5, hcv⟩ := hrc.form
                        rw [hcv] at hrc hni hcc
                        have hnn5 : (sp l5).isNone = p5.isNone := (isNil_same hni).symm
                        have v1 : ∀ q, (convert 33 9 (.slice (sp l5) (sl l5) (sc l5))).run Yba.prog (wr.drewN q) = .ok (.string (ss l5)) (wr.drewN q) := fun q => Reads.conv ((H.out.reads l5 hlj).kept (S' := Under w.heap.size) fun b hb => ⟨hb, (HY.out.block b (by have : b < w.heap.size := hb; omega)).trans (HB2.out.block b hb)⟩)
                        have v2 : ∀ q, (convert 33 9 (.slice p5 le5 ca5)).run Yba.prog (wr.drewN q) = .ok (.string (ss l5)) (wr.drewN q) := fun q => Reads.conv (hrc.kept (S' := fun _ => True) fun b hb => ⟨trivial, rfl⟩)
                        clear hrc hni hcop hc hcv
                        go_wp2
                        go_quiet ((go_at_call 11; exact Calls.quiet_of_same (same_yes _ _ _ _ _ _ (ss l5) _ hnn5 (v1 _) (v2 _))))
                        go_wp2
                        go_roundw
                        case rel => go_light; exact ⟨l5 + 1, by omega, by go_num, below_drewN HY.out _⟩
                        case measure => simp [intOf]; omega
                      · go_wp2
                        go_ret
                        exact ⟨rfl, HB2.out.trans (HY.out.mono (by have := HB2.out.size; omega))⟩
end Go.Proofs.Ybulkdsyu
