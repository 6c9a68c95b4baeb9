import Derived.Test.YbulkdswcDoorT4
namespace Go.Proofs.YbulkdswcDoor
open Go Ieee Go.RowKit Go.Sort

/-- An append, its run given. -/
theorem wpList_append_run {P : Program} {w : World} {ops : Array Oper} {rest : List Oper} {o : Oper} {a : Act} {Q : Exit → Act → World → Prop}
    (hg : o.guard = none) (s x : Operand) (t : TypeId) (hop : o.op = Op.call { callee := Callee.builtin Builtin.append, args := #[s, x], argTypes := #[t, t] })
    (v1 v2 v' : Value) (w' : World) (hs : a.eval s = v1) (hx : a.eval x = v2) (hrun : (Builtin.append_ #[t, t] o.type #[v1, v2]).run P w = .ok v' w')
    (hK : wpList P ops Q rest (a.put o.dst v') w') : wpList P ops Q (o :: rest) a w := by
  refine wpList_plain hg fun K hK' => ?_
  unfold Oper.wp
  simp [execOp, hop, resolve, invoke, builtin, hs, hx, hrun, Result.andThen]
  exact hK' _ _ hK

/-- The cell of an int. -/
abbrev encI (k : Nat) : Value := .int .i64 (k : Int)
/-- A list of ints in a row of one's own. -/
structure Ks (w : World) (l : List Nat) (p : Option Addr) (n c : Nat) (wr : World) : Prop where
  row : wr.ownsRow w.heap.size (3 : Nat) 1 (.slice p n c) n (l.map encI)
  len : l.length = n
  below : Below w.heap.size w wr

theorem Ks.draw {w wr : World} {l : List Nat} {p : Option Addr} {n c : Nat} (h : Ks w l p n c wr) (q : Nat) : Ks w l p n c (wr.drewN q) := ⟨h.row, h.len, below_draw h.below q⟩

theorem Ks.at_ {w wr : World} {l : List Nat} {p : Option Addr} {n c : Nat} (h : Ks w l p n c wr) {i k : Nat} (hi : l[i]? = some k) : ∃ g, p = some ⟨g, 0, none⟩ ∧ wr.cell? ⟨g, i, none⟩ = some (.int .i64 k) := by
  have hlt := (List.getElem?_eq_some_iff.1 hi).1
  obtain ⟨g, e, _, _, hc⟩ := rowAt h.row (i := i) (by rw [← h.len]; exact hlt)
  exact ⟨g, e, by rw [hc, List.getElem?_map, hi]; rfl⟩

theorem Ks.push {w wr : World} {l : List Nat} {p : Option Addr} {n c : Nat} (h : Ks w l p n c wr) (hn : n ≤ 9000) (k : Nat) :
    ∃ g c2 w2, (Builtin.append_ #[27, 27] 27 #[.slice p n c, .slice (some ⟨wr.heap.size, 0, none⟩) 1 1]).run Ybad.prog (wr.alloc (.cells #[.int .i64 (k : Int)] 3)) = .ok (.slice (some ⟨g, 0, none⟩) (n + 1) c2) w2 ∧ Ks w (l ++ [k]) (some ⟨g, 0, none⟩) (n + 1) c2 w2 := by
  obtain ⟨g, c2, w2, h1, h2, h3⟩ := append_one (ty := 27) (.int .i64 (k : Int)) Ybad.underlying27 info3 rfl rfl h.row h.below.size hn
  exact ⟨g, c2, w2, h1, by rw [List.map_append]; exact h2, by simp [h.len], h.below.trans h3⟩

theorem Ks.nil (w wr : World) (h : Below w.heap.size w wr) : Ks w [] (some ⟨wr.heap.size, 0, none⟩) 0 0 (wr.alloc (.cells #[] 3)) := by
  refine ⟨⟨rfl, .inr ⟨wr.heap.size, 0, #[], rfl, h.size, ?_, Nat.le_refl _, by decide, rfl, rfl⟩⟩, rfl, h.alloc h.size _⟩
  unfold World.alloc; simp

theorem stepsUp_range {H : Nat → Nat} {wd up k : Nat} (h : up ≤ k) : stepsUp H wd up (List.range (k + 1)) = if longer H wd k = true then stepsUp H wd up (List.range k) ++ [k] else stepsUp H wd up (List.range k) := by
  unfold stepsUp
  rw [List.range_succ, List.filter_append]
  by_cases hl : longer H wd k = true
  · simp [hl, h]
  · simp [hl]

theorem stepsUp_low {H : Nat → Nat} {wd up : Nat} : stepsUp H wd up (List.range up) = [] := by
  unfold stepsUp
  rw [List.filter_eq_nil_iff]
  intro k hk
  rw [List.mem_range] at hk
  simp [show ¬ up ≤ k by omega]

theorem stepsUp_len {H : Nat → Nat} {wd up k : Nat} : (stepsUp H wd up (List.range k)).length ≤ k := by
  unfold stepsUp
  exact Nat.le_trans (List.length_filter_le _ _) (by simp)

theorem stepsUp_mem {H : Nat → Nat} {wd up n k : Nat} (h : k ∈ stepsUp H wd up (List.range n)) : k < n := by
  unfold stepsUp at h
  exact List.mem_range.1 (List.mem_filter.1 h).1

theorem topL_drop {n i e : Nat} {L : List Nat} (h : L[i]? = some e) : topL n (L.drop i) = if modeF n ((match L[i + 1]? with | some k => (k : Int) | none => (n : Int) - 1) - e) then topL n (L.drop (i + 1)) else e := by
  obtain ⟨hlt, e1⟩ := List.getElem?_eq_some_iff.1 h
  rw [List.drop_eq_getElem_cons hlt, e1]
  cases h2 : L[i + 1]? with
  | none =>
    have : L.length ≤ i + 1 := List.getElem?_eq_none_iff.1 h2
    rw [List.drop_of_length_le this]
    rfl
  | some k =>
    obtain ⟨hlt2, e2⟩ := List.getElem?_eq_some_iff.1 h2
    rw [List.drop_eq_getElem_cons hlt2, e2]
    rfl

set_option maxHeartbeats 8000000 in
set_option maxRecDepth 100000 in
theorem mtop_f {s : Array Nat} {h2 H : Nat → Nat} (F : Fl s h2 H) {w : World} {sb so cs hr d a wd up : Nat} (hc : ∀ k, k < s.size → w.cell? ⟨sb, so + k, none⟩ = some (.float .f64 s[k]!)) (hsb : sb < w.heap.size) (hn : s.size ≤ 8200) (hn0 : 0 < s.size) (hup : up ≤ s.size - 1)
    (hd1 : D.mul two d = some a) (hd2 : D.mul a hr = some wd) :
    Calls Ybad.prog 25 #[.slice (some ⟨sb, so, none⟩) s.size cs, .float .f64 hr, .int .i64 up, .float .f64 d] w fun e w' => e = .returned (.int .i64 (topL s.size (stepsUp H wd up (List.range (s.size - 1))) : Nat)) ∧ Below w.heap.size w w' := by
  have HC := (show Hid _ from hc)
  have cW := wide_f hd1 hd2 w
  have n1 : (s.size : Int) ≤ 8200 := by omega
  have n0 : (1 : Int) ≤ (s.size : Int) := by omega
  have u0 : (0 : Int) ≤ (up : Int) := by omega
  have HK0 : Hid (Ks w [] (some ⟨w.heap.size, 0, none⟩) 0 0 (w.alloc (.cells #[] 3))) := Ks.nil w w (Below.refl _ _)
  clear hc hd1 hd2
  go_enter Ybad.func25, Ybad.ntmps25
  go_wp2_with fail
  refine cW.mono ?_
  rintro e w1 ⟨rfl, rfl⟩
  clear cW
  go_upto_block 0 with fail
  generalize w1.alloc (.cells #[] 3) = W0 at HK0 ⊢
  go_cut [11, 12] from 22 to 36 (fun v11 _ wx => ∃ (p : Option Addr) (n c : Nat), v11 = .slice p n c ∧ Ks w1 (stepsUp H wd up (List.range (s.size - 1))) p n c wx)
  case first =>
    go_wp2_with fail
    go_loopw [11, 12] (fun v11 v12 wr => ∃ (k : Nat) (p : Option Addr) (n c : Nat), v11 = .slice p n c ∧ v12 = .int .i64 k ∧ up ≤ k ∧ k ≤ s.size - 1 ∧ Ks w1 (stepsUp H wd up (List.range k)) p n c wr) (fun _ v12 _ => s.size - (intOf v12).toNat)
    case atStart => exact ⟨up, _, _, _, rfl, rfl, Nat.le_refl _, hup, by rw [stepsUp_low]; exact HK0.out⟩
    case round =>
      clear HK0 W0
      obtain ⟨k, p, n, c, rfl, rfl, huk, hks, hK⟩ := hrel
      have HK := (show Hid _ from hK)
      have k0 : (0 : Int) ≤ (k : Int) := by omega
      by_cases hkn : k + 1 < s.size
      · have k1 : (k : Int) + 1 < (s.size : Int) := by omega
        have hw1 : IntKind.i64.wrap ((k : Int) + 1) = (k : Int) + 1 := wrapI (by omega) (by omega)
        have cH := half_f (w := wr) (sb := sb) (so := so) (cs := cs) F (fun k hk => (hK.below.cell (p := ⟨sb, so + k, none⟩) hsb).trans (HC.out k hk)) hkn (by omega)
        have hlen : n ≤ 9000 := by have h1 := hK.len; have := stepsUp_len (H := H) (wd := wd) (up := up) (k := k); omega
        have HR := (show Hid _ from stepsUp_range (H := H) (wd := wd) huk)
        have HL : Hid (longer H wd k = (D.order (H k) wd == some .gt)) := rfl
        clear hK
        generalize H k = r at *
        go_wp2_with fail
        refine cH.mono ?_
        rintro e W1 ⟨rfl, q, hq⟩
        have HK1 : Hid (Ks w1 (stepsUp H wd up (List.range k)) p n c W1) := by rw [hq]; exact HK.out.draw q
        clear cH hq HK
        go_upto_if 32 with fail
        cases hl : (D.order r wd == some .gt)
        · rw [show (FloatKind.f64.format.order r wd == some Ordering.gt) = false from hl]
          rw [HL.out, hl] at HR
          clear HL hl
          go_wp2
          go_roundw
          case rel =>
            go_light
            exact ⟨k + 1, p, n, c, rfl, by go_num, by omega, by omega, by rw [HR.out]; exact HK1.out⟩
          case measure => simp [intOf]; omega
        · rw [show (FloatKind.f64.format.order r wd == some Ordering.gt) = true from hl]
          rw [HL.out, hl] at HR
          clear HL hl
          obtain ⟨g, c2, w2, ha, hK2⟩ := HK1.out.push hlen k
          have HA := (show Hid _ from ha)
          have HK2 := (show Hid _ from hK2)
          clear ha hK2
          go_wp2_with (at_builtin; refine wpList_append_run rfl (.tmp 33) (.tmp 35) 27 rfl _ _ _ _ rfl rfl HA.out ?_)
          go_roundw
          case rel =>
            go_light
            exact ⟨k + 1, _, _, _, rfl, by go_num, by omega, by omega, by rw [HR.out]; exact HK2.out⟩
          case measure => simp [intOf]; omega
      · have k1 : ¬ (k : Int) + 1 < (s.size : Int) := by omega
        have hw1 : IntKind.i64.wrap ((k : Int) + 1) = (k : Int) + 1 := wrapI (by omega) (by omega)
        have HE : Hid (k = s.size - 1) := (show k = s.size - 1 from by omega)
        clear hK
        go_wp2_with fail
        go_meet
        case rel => exact ⟨p, n, c, rfl, by rw [← HE.out]; exact HK.out⟩
  case rest =>
    obtain ⟨p, n, c, rfl, hK⟩ := hcut
    obtain ⟨W2, hW⟩ : ∃ W : World, W = wc := ⟨_, rfl⟩
    rw [← hW] at hK ⊢
    have HK := (show Hid _ from hK)
    have HM : Hid (∀ k ∈ stepsUp H wd up (List.range (s.size - 1)), k < s.size - 1) := fun k hk => stepsUp_mem hk
    have nn : n ≤ 8200 := by have h1 := hK.len; have := stepsUp_len (H := H) (wd := wd) (up := up) (k := s.size - 1); omega
    obtain ⟨L, hLe⟩ : ∃ L, stepsUp H wd up (List.range (s.size - 1)) = L := ⟨_, rfl⟩
    rw [hLe] at HK HM
    have HLE := (show Hid _ from hLe)
    clear hK hW HK0 hLe
    have n2 : (n : Int) ≤ 8200 := by omega
    have n3 : (0 : Int) ≤ (n : Int) := by omega
    have HN : Hid ((((s.size - 1 : Nat) : Nat) : Int) = (s.size : Int) - 1) := (show (((s.size - 1 : Nat) : Nat) : Int) = (s.size : Int) - 1 from by omega)
    go_wp2_with fail
    go_loopw [13] (fun v13 wr => ∃ i : Nat, i ≤ n ∧ v13 = .int .i64 i ∧ topL s.size L = topL s.size (L.drop i) ∧ Ks w1 L p n c wr) (fun v13 _ => n - (intOf v13).toNat)
    case atStart => exact ⟨0, Nat.zero_le _, rfl, rfl, HK.out⟩
    case round =>
      clear HK
      obtain ⟨i, hi, rfl, hT, hK⟩ := hrel
      have HK := (show Hid _ from And.intro hT hK)
      have i0 : (0 : Int) ≤ (i : Int) := by omega
      have hw1 : IntKind.i64.wrap ((i : Int) + 1) = (i : Int) + 1 := wrapI (by omega) (by omega)
      by_cases hin : i < n
      · have i1 : (i : Int) < (n : Int) := by omega
        obtain ⟨e, he⟩ : ∃ e, L[i]? = some e := ⟨_, List.getElem?_eq_getElem (by have := hK.len; omega)⟩
        obtain ⟨g, rfl, ce⟩ := hK.at_ he
        have hem := HM.out e (List.mem_of_getElem? he)
        obtain ⟨nx, hnx⟩ : ∃ nx : Int, (match L[i + 1]? with | some k => (k : Int) | none => (s.size : Int) - 1) = nx := ⟨_, rfl⟩
        have HT : Hid (topL s.size (L.drop i) = if modeF s.size (nx - e) then topL s.size (L.drop (i + 1)) else e) := by
          show _ = _
          rw [← hnx]; exact topL_drop he
        have hnb : 0 ≤ nx ∧ nx ≤ 8200 := by
          rw [← hnx]
          cases h2 : L[i + 1]? with
          | none => simp only; omega
          | some k => have := HM.out k (List.mem_of_getElem? h2); simp only; omega
        have HNX := (show Hid _ from hnx)
        have e0 : (0 : Int) ≤ (e : Int) := by omega
        have e1 : (e : Int) < 8200 := by omega
        have x0 := hnb.1
        have x1 := hnb.2
        clear he hT hnx hnb
        go_upto_if 49 with fail
        go_cut [14] from 49 to 54 (fun v wx => v = .int .i64 nx ∧ wr = wx)
        case first =>
          by_cases hin2 : i + 1 < n
          · have b1 : decide ((i : Int) + 1 < (n : Int)) = true := decide_eq_true (by omega)
            rw [b1]
            clear b1
            have b2 : (i : Int) + 1 < (n : Int) := by omega
            obtain ⟨k, hk⟩ : ∃ k, L[i + 1]? = some k := ⟨_, List.getElem?_eq_getElem (by have := hK.len; omega)⟩
            obtain ⟨g2, e2, ck⟩ := hK.at_ hk
            cases e2
            have HX : Hid ((k : Int) = nx) := by have := HNX.out; rw [hk] at this; exact this
            clear hk hK HNX
            go_wp2_with fail
            go_meet
            case rel => exact ⟨by rw [← HX.out], rfl⟩
          · have b1 : decide ((i : Int) + 1 < (n : Int)) = false := decide_eq_false (by omega)
            rw [b1]
            clear b1
            have HX : Hid ((s.size : Int) - 1 = nx) := by have := HNX.out; rw [List.getElem?_eq_none (by have := hK.len; omega)] at this; exact this
            clear hK HNX
            go_wp2_with fail
            go_meet
            case rel => exact ⟨by rw [← HX.out], rfl⟩
        case rest =>
          obtain ⟨rfl, rfl⟩ := hcut
          have cM := mode_f s.size (nx - e) wr
          have hw2 : IntKind.i64.wrap (nx - (e : Int)) = nx - (e : Int) := wrapI (by omega) (by omega)
          clear hK HNX
          cases hm : modeF s.size (nx - e)
          · rw [hm] at cM
            go_wp2_with fail
            refine cM.mono ?_
            rintro e2 W4 ⟨rfl, rfl⟩
            have HF : Hid (topL s.size L = e) := by show _ = _; rw [HK.out.1, HT.out, hm]; rfl
            clear cM
            go_wp2
            go_ret
            exact ⟨by rw [HLE.out, HF.out]; rfl, HK.out.2.below⟩
          · rw [hm] at cM
            go_wp2_with fail
            refine cM.mono ?_
            rintro e2 W4 ⟨rfl, rfl⟩
            have HF : Hid (topL s.size L = topL s.size (L.drop (i + 1))) := by show _ = _; rw [HK.out.1, HT.out, hm]; rfl
            clear cM
            go_wp2
            go_roundw
            case rel =>
              go_light
              exact ⟨i + 1, by omega, by go_num, HF.out, HK.out.2⟩
            case measure => simp [intOf]; omega
      · have i1 : ¬ (i : Int) < (n : Int) := by omega
        have HF : Hid (topL s.size L = s.size - 1) := by
          show _ = _
          rw [hT, List.drop_of_length_le (by have := hK.len; omega)]; rfl
        clear hT hK
        go_wp2
        go_ret
        exact ⟨by rw [HLE.out, HF.out, HN.out]; rfl, HK.out.2.below⟩
end Go.Proofs.YbulkdswcDoor
