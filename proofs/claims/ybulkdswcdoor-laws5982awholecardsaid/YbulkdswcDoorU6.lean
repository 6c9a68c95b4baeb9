import Derived.Test.YbulkdswcDoorV3
namespace Go.Proofs.YbulkdswcDoor
open Go Ieee Go.RowKit Go.Sort Go.Shelf Go.Lib

theorem abv_eq {s : Array Nat} {h2 H : Nat → Nat} {hr lo up : Nat} {g : List Nat} (T : Dt s h2 H hr lo up g) : D.add s[topI s.size H (wid hr FST) up g]! (wid hr FST) = some (abv s H hr up g) := by
  obtain ⟨z, hz⟩ := T.ab _ (topI_lt (H := H) (wd := wid hr FST) (up := up) T.n0 T.gk)
  unfold abv; rw [hz]; rfl
theorem blw_eq {s : Array Nat} {h2 H : Nat → Nat} {hr lo up : Nat} {g : List Nat} (T : Dt s h2 H hr lo up g) : D.sub s[botI s.size H (wid hr FST) lo g]! (wid hr FST) = some (blw s H hr lo g) := by
  obtain ⟨z, hz⟩ := T.be _ (botI_lt (H := H) (wd := wid hr FST) (lo := lo) T.n0 T.gk)
  unfold blw; rw [hz]; rfl

theorem chg_take {H : Nat → Nat} {hr : Nat} {g : List Nat} {i k : Nat} (h : g[i]? = some k) : chg H hr (g.take (i + 1)) = if FST < sh H hr k then chg H hr (g.take i) ++ [sh H hr k] else chg H hr (g.take i) := by
  obtain ⟨hlt, e⟩ := List.getElem?_eq_some_iff.1 h
  unfold chg
  rw [List.take_succ_eq_append_getElem hlt, e, List.map_append, List.filter_append, List.map_cons, List.map_nil, List.filter_cons]
  by_cases hc : FST < sh H hr k
  · rw [if_pos hc, decide_eq_true hc, if_pos rfl]; rfl
  · rw [if_neg hc, decide_eq_false hc, if_neg (by decide)]; simp

theorem chg_len {H : Nat → Nat} {hr : Nat} {g : List Nat} : (chg H hr g).length ≤ g.length + 1 := by
  unfold chg
  rw [List.length_cons]
  have := List.length_filter_le (fun x => decide (FST < x)) (g.map (sh H hr))
  rw [List.length_map] at this
  omega

theorem tr_value {P : Program} {C : World → Prop} {φ : Value → Prop} {r : Result Next} {u : Value} {w' : World} (h : r = .ok (.value u) w') (hC : C w') (hu : φ u) : TR P C φ r := by rw [h]; exact ⟨hC, hu⟩
theorem tr_enter {P : Program} {C : World → Prop} {φ : Value → Prop} {r : Result Next} {f : FuncId} {args : Array Value} {w' : World} (h : r = .ok (.enter f args) w') (hc : Calls P f args w' fun e w'' => ∃ u, e = .returned u ∧ φ u ∧ C w'') : TR P C φ r := by rw [h]; exact hc
theorem below_drawn2 {B : Nat} {W w' : World} (h : Below B W w') : Below B W { w' with drawn := w'.drawn + 1 } := ⟨h.os, h.tape, h.output, h.size, h.block⟩

/-- The slots of the reckoning, at a NaN. -/
def PhiN (bx : Nat) (cl sl : Value) (wi b sb so x hx v hr : Nat) (d : Tmp) (u : Value) : Prop := match d with
  | 85 => u = .pointer (some ⟨bx, 0, none⟩)
  | 86 => u = sl
  | 87 => u = cl
  | 88 => u = .float .f64 wi
  | 89 => u = .int .i64 (b : Int)
  | 90 => u = .pointer (some ⟨sb, so + b, none⟩)
  | 91 => u = .float .f64 x
  | 92 => u = .float .f64 hx
  | 93 => u = .float .f64 v
  | 96 => u = .pointer (some ⟨bx, 3, none⟩)
  | 97 => u = .float .f64 hr
  | _ => ∃ r, nanF r = true ∧ r < 18446744073709551616 ∧ u = .float .f64 r

theorem perm_mem {l : List Nat} {d : Array Nat} {n : Nat} (h : PermIn 0 n l.toArray d) (hn : l.length = n) (x : Nat) : (∃ j, j < d.size ∧ d[j]! = x) ↔ x ∈ l := by
  have hs : d.size = n := by have := h.1; simp at this; omega
  have hp := h.2.2
  have e1 : (d.extract 0 n).toList = d.toList := by rw [← hs]; simp
  have e2 : (l.toArray.extract 0 n).toList = l := by rw [← hn]; simp
  rw [e1, e2] at hp
  rw [← hp.mem_iff]
  constructor
  · rintro ⟨j, hj, rfl⟩
    rw [getElem!_pos _ j hj]
    simp
  · intro hx
    obtain ⟨j, hj, e⟩ := List.mem_iff_getElem.1 hx
    have hj2 : j < d.size := by simpa using hj
    exact ⟨j, hj2, by rw [getElem!_pos _ j hj2]; simpa using e⟩

theorem chg_ok {s : Array Nat} {h2 H : Nat → Nat} {hr lo up : Nat} {g : List Nat} (T : Dt s h2 H hr lo up g) (x : Nat) (hx : x ∈ chg H hr g) : FST ≤ x ∧ x ≤ 9218868437227405312 := by
  unfold chg at hx
  rcases List.mem_cons.1 hx with rfl | hx
  · exact ⟨Nat.le_refl _, by decide⟩
  · obtain ⟨h1, h2⟩ := List.mem_filter.1 hx
    obtain ⟨k, hk, rfl⟩ := List.mem_map.1 h1
    obtain ⟨_, _, _, h3⟩ := T.share k hk
    exact ⟨by have : FST < sh H hr k := by simpa using h2
              omega, h3⟩

theorem exists_asc : ∀ l : List Nat, ∃ C, Asc l C
  | [] => ⟨[], List.Pairwise.nil, by simp⟩
  | a :: l => by
    obtain ⟨C, h1, h2⟩ := exists_asc l
    refine ⟨C.filter (· < a) ++ a :: C.filter (fun x => decide (a < x)), ?_, fun x => ?_⟩
    · rw [List.pairwise_append, List.pairwise_cons]
      refine ⟨h1.filter _, ⟨fun y hy => by simpa using (List.mem_filter.1 hy).2, h1.filter _⟩, fun x hx y hy => ?_⟩
      have hxa : x < a := by simpa using (List.mem_filter.1 hx).2
      rcases List.mem_cons.1 hy with rfl | hy
      · exact hxa
      · have : a < y := by simpa using (List.mem_filter.1 hy).2
        omega
    · rw [List.mem_append, List.mem_cons, List.mem_filter, List.mem_filter, h2, List.mem_cons]
      simp only [decide_eq_true_eq]
      constructor
      · rintro (h | h | h)
        · exact .inr h.1
        · exact .inl h
        · exact .inr h.1
      · rintro (h | h)
        · exact .inr (.inl h)
        · rcases Nat.lt_trichotomy x a with k | k | k
          · exact .inl ⟨h, k⟩
          · exact .inr (.inl k)
          · exact .inr (.inr ⟨h, k⟩)

set_option maxHeartbeats 16000000 in
set_option maxRecDepth 100000 in
theorem departure_f {s : Array Nat} {h2 H : Nat → Nat} {hr lo up : Nat} {g : List Nat} (T : Dt s h2 H hr lo up g) {w : World} {B0 sb so cs gn gc v : Nat} {gp : Option Addr} (hM : CM w B0 sb so s gp g) (hB : B0 ≤ w.heap.size) (hB1 : 0 < B0) (hgn : gn = g.length)
    (hg0 : w.cell? ⟨0, 0, none⟩ = some (.float .f64 FST)) (hV : Vt s.size h2 hr v) :
    Calls Ybad.prog 10 #[clv sb so s.size cs lo up hr gp gn gc, .float .f64 v] w fun e w' => (∃ C, Asc (chg H hr g) C ∧ e = .returned (.float .f64 (depR s h2 H hr lo up g v C))) ∧ Below w.heap.size w w' := by
  obtain ⟨hb0, hbw⟩ := bx_start hM hB s.size cs lo up hr gn gc
  have HT := (show Hid _ from And.intro T (And.intro hgn hV))
  have HAB := (show Hid _ from And.intro (abv_eq T) (blw_eq T))
  have HRR : Hid (∀ C, depR s h2 H hr lo up g v C = if inside v (abv s H hr up g) (blw s H hr lo g) = true then 0 else depL (bey s.size h2 H hr lo up g v (abv s H hr up g)) C 0) := fun C => rfl
  have HI : Hid (inside v (abv s H hr up g) (blw s H hr lo g) = ((D.order v (abv s H hr up g) == some .lt || D.order v (abv s H hr up g) == some .eq) && (D.order v (blw s H hr lo g) == some .gt || D.order v (blw s H hr lo g) == some .eq))) := rfl
  generalize abv s H hr up g = ab at *
  generalize blw s H hr lo g = be at *
  generalize depR s h2 H hr lo up g v = R at *
  have g1 : (gn : Int) ≤ 8200 := by have := T.gl; omega
  have g0 : (0 : Int) ≤ (gn : Int) := by omega
  have g2 : gn ≤ 8200 := by omega
  have HA0 : Hid (∃ C, Asc (chg H hr g) C) := exists_asc _
  clear hM hgn hV T
  go_enter Ybad.func10, Ybad.ntmps10
  go_upto_region 1 with fail
  have HW := (show Hid _ from And.intro hb0 hbw)
  have hc0 : (w.alloc (.cells #[.slice (some ⟨sb, so, none⟩) s.size cs, .int .i64 lo, .int .i64 up, .float .f64 hr, .slice gp gn gc] 30)).cell? ⟨0, 0, none⟩ = some (.float .f64 FST) := (hbw.cell (p := ⟨0, 0, none⟩) (show 0 < w.heap.size by omega)).trans hg0
  generalize w.alloc _ = W at *
  have c0 := hb0.c0
  have c1 := hb0.c1
  have c2 := hb0.c2
  have c3 := hb0.c3
  have c4 := hb0.c4
  obtain ⟨a1, hd1, hd2⟩ := HT.out.1.wide FST (Nat.le_refl _) (by decide)
  have cB := bounds_f (cs := cs) (gc := gc) HT.out.1.fl hb0.m hb0.le (by have := HT.out.1.n1; omega) HT.out.1.n0 HT.out.2.1 (by have := HT.out.1.gl; omega) HT.out.1.gk (HT.out.1.cmp FST (Nat.le_refl _) (by decide)) hd1 hd2 HT.out.1.lo HT.out.1.up HAB.out.1 HAB.out.2
  clear hb0 hbw hd1 hd2 hg0 HAB
  go_wp2_with fail
  refine cB.mono ?_
  rintro e W2 ⟨rfl, hb2⟩
  have hb3 := HW.out.1.next hb2
  have HB3 := (show Hid _ from And.intro hb3 (HW.out.2.trans (hb2.mono HW.out.2.size)))
  clear cB c0 c1 c2 c3 c4 hc0 hb2 HW
  have c4 := hb3.c4
  clear hb3
  go_upto_region 3 with fail
  go_cut [33] from 26 to 33 (fun v33 wx => v33 = .bool (inside v ab be) ∧ wx = W2)
  case first =>
    cases hb1 : (FloatKind.f64.format.order v ab == some Ordering.lt || FloatKind.f64.format.order v ab == some Ordering.eq) with
    | false =>
      go_wp2_with fail
      go_meet
      case rel => exact ⟨by rw [HI.out, show (D.order v ab == some Ordering.lt || D.order v ab == some Ordering.eq) = false from hb1]; rfl, rfl⟩
    | true =>
      go_wp2_with fail
      go_meet
      case rel => exact ⟨by rw [HI.out, show (D.order v ab == some Ordering.lt || D.order v ab == some Ordering.eq) = true from hb1]; rfl, rfl⟩
  case rest =>
    obtain ⟨rfl, hwc⟩ := hcut
    rw [hwc]
    clear hwc
    cases hin : inside v ab be with
    | true =>
      rw [hin] at HRR
      clear hin
      go_wp2_with fail
      go_ret
      exact ⟨⟨_, HA0.out.choose_spec, by rw [HRR.out]; rfl⟩, HB3.out.2⟩
    | false =>
      rw [hin] at HRR
      clear hin
      have hKF0 := KF.one W2 W2 (Below.refl _ _) FST
      have c4' := (HB3.out.1.next ((Below.refl W2.heap.size W2).alloc (Nat.le_refl _) (.cells #[.float .f64 FST] 23))).c4
      clear c4
      have HKF0 := (show Hid _ from hKF0)
      clear hKF0
      go_upto_block 0 with fail
      generalize W2.alloc _ = W3 at *
      clear c4'
      go_cut [8] from 8 to 55 (fun v8 wx => ∃ (p : Option Addr) (n c : Nat), v8 = .slice p n c ∧ KF W2 (chg H hr g) p n c wx)
      case first =>
        go_wp2_with fail
        go_loopw [8, 39] (fun v8 v39 wr => ∃ (i : Nat) (p : Option Addr) (n c : Nat), v8 = .slice p n c ∧ v39 = .int .i64 i ∧ i ≤ gn ∧ KF W2 (chg H hr (g.take i)) p n c wr) (fun _ v39 _ => gn - (intOf v39).toNat)
        case atStart => exact ⟨0, _, _, _, rfl, rfl, Nat.zero_le _, by rw [List.take_zero]; exact HKF0.out⟩
        case round =>
          clear HKF0 W3
          obtain ⟨i, p, n, c, rfl, rfl, hi, hK⟩ := hrel
          have HK := (show Hid _ from hK)
          have hbx := HB3.out.1.next hK.below
          have i0 : (0 : Int) ≤ (i : Int) := by omega
          by_cases hin : i < gn
          · have i1 : (i : Int) < (gn : Int) := by omega
            obtain ⟨k, hk⟩ : ∃ k, g[i]? = some k := ⟨_, List.getElem?_eq_getElem (by have := HT.out.2.1; omega)⟩
            have hkg : k ∈ g := List.mem_of_getElem? hk
            have hkn := HT.out.1.gk k hkg
            obtain ⟨a3, hs1, hs2, hs3⟩ := HT.out.1.share k hkg
            obtain ⟨b, off, rfl, _, cg⟩ := hbx.m.gc i k hk
            have HC := (show Hid _ from chg_take (H := H) (hr := hr) hk)
            have hlen : n ≤ 9000 := by have h1 := hK.len; have := chg_len (H := H) (hr := hr) (g := g.take i); have := List.length_take_le i g; omega
            clear hk hkg
            go_upto_region 9 with fail
            obtain ⟨ι, f, hf, hfs⟩ := class_of (fun w' => Below wr.heap.size wr w')
            have hbf : ∀ j, Bx W (w.heap.size + 1) w.heap.size sb so s.size cs lo up hr (some ⟨b, off, none⟩) gn gc s g (f j) := fun j => hbx.next (hf j)
            have c0 : ∀ j, (f j).cell? ⟨w.heap.size, 0, none⟩ = _ := fun j => (hbf j).c0
            have c1 : ∀ j, (f j).cell? ⟨w.heap.size, 1, none⟩ = _ := fun j => (hbf j).c1
            have c2 : ∀ j, (f j).cell? ⟨w.heap.size, 2, none⟩ = _ := fun j => (hbf j).c2
            have c3 : ∀ j, (f j).cell? ⟨w.heap.size, 3, none⟩ = _ := fun j => (hbf j).c3
            have c4 : ∀ j, (f j).cell? ⟨w.heap.size, 4, none⟩ = _ := fun j => (hbf j).c4
            have HH : Hid (∀ j, Calls Ybad.prog 20 #[clv sb so s.size cs lo up hr (some ⟨b, off, none⟩) gn gc, .int .i64 k] (f j) fun e w' => e = .returned (.float .f64 (H k)) ∧ ∃ j, w' = f j) := fun j =>
              (halfStep_f (cs := cs) (lo := lo) (up := up) (hr := hr) (gn := gn) (gc := gc) HT.out.1.fl (hbf j).m (hbf j).le hkn (by have := HT.out.1.n1; omega)).mono fun e w' h => ⟨h.1, hfs _ ((hf j).trans (h.2.mono (hf j).size))⟩
            have HS : Hid (∀ j, Calls Ybad.prog 19 #[clv sb so s.size cs lo up hr (some ⟨b, off, none⟩) gn gc, .float .f64 (H k)] (f j) fun e w' => e = .returned (.float .f64 (sh H hr k)) ∧ ∃ j, w' = f j) := fun j =>
              (share_f hs1 hs2 (f j)).mono fun e w' h => ⟨h.1, hfs _ ((hf j).trans (h.2.mono (hf j).size))⟩
            have h0 : ∃ j, { wr with drawn := wr.drawn + 1 } = f j := hfs _ below_drawn
            have HF := (show Hid (∀ j, Below wr.heap.size wr (f j)) from hf)
            have _ : Nonempty ι := ⟨h0.choose⟩
            clear hbf hfs hf hbx hs1 hs2 cg
            generalize sh H hr k = d at *
            generalize H k = hk at *
            refine wp_region_class f (by kernel_rfl) (by kernel_rfl) h0 ?_
            clear h0
            repeat (go_big_quiet_step (first | exact HH.out _ | exact HS.out _))
            refine wpQuiet_nil ?_
            rintro _ ⟨j, rfl⟩
            have HK1 : Hid (KF W2 (chg H hr (g.take i)) p n c (f j)) := HK.out.next (HF.out j)
            clear c0 c1 c2 c3 c4 HH HS HF HK
            generalize f j = W4 at *
            by_cases hgt : FST < d
            · have hb : (FloatKind.f64.format.order d FST == some Ordering.gt) = true := (pos_gt hs3 (by decide)).trans (decide_eq_true hgt)
              rw [if_pos hgt] at HC
              obtain ⟨gk, c2, w2, ha, hK2⟩ := HK1.out.push hlen d
              have HA := (show Hid _ from ha)
              have HK2 := (show Hid _ from hK2)
              clear ha hK2
              go_wp2_with (at_builtin; refine wpList_append_run rfl (.tmp 51) (.tmp 53) 24 rfl _ _ _ _ rfl rfl HA.out ?_)
              go_roundw
              case rel =>
                go_light
                exact ⟨i + 1, _, _, _, rfl, by go_num, by omega, by rw [HC.out]; exact HK2.out⟩
              case measure => simp [intOf]; omega
            · have hb : (FloatKind.f64.format.order d FST == some Ordering.gt) = false := (pos_gt hs3 (by decide)).trans (decide_eq_false hgt)
              rw [if_neg hgt] at HC
              go_wp2
              go_roundw
              case rel =>
                go_light
                exact ⟨i + 1, _, _, _, rfl, by go_num, by omega, by rw [HC.out]; exact HK1.out⟩
              case measure => simp [intOf]; omega
          · have i1 : ¬ (i : Int) < (gn : Int) := by omega
            have HE : Hid (g.take i = g) := (show g.take i = g from List.take_of_length_le (by have := HT.out.2.1; omega))
            clear hbx hK
            go_wp2_with fail
            go_meet
            case rel => exact ⟨p, n, c, rfl, by rw [← HE.out]; exact HK.out⟩
      case rest =>
        obtain ⟨p, n, c, rfl, hK⟩ := hcut
        obtain ⟨W4, hW4⟩ : ∃ W4 : World, W4 = wc := ⟨_, rfl⟩
        rw [← hW4] at hK ⊢
        clear hW4 HKF0 W3
        have hn0 : 0 < n := by have := hK.len; unfold chg at this; simp at this; omega
        have hn1 : n ≤ 8201 := by have h1 := hK.len; have := chg_len (H := H) (hr := hr) (g := g); have := HT.out.1.gl; omega
        obtain ⟨blk, rfl, hbl, hbl2, hcap, hH⟩ := hK.holds hn0
        have hlen := hK.len
        have cS := sort_f blk 0 c (chg H hr g).toArray W4 hH hbl2 (by simp; omega)
        rw [show (chg H hr g).toArray.size = n by simpa using hlen] at cS
        have HK := (show Hid _ from And.intro hK (And.intro hlen hH))
        clear hK hlen hH
        go_wp2_with fail
        refine cS.mono ?_
        rintro e W5 ⟨rfl, d', hperm, hsort, hview⟩
        have hds : d'.size = n := by have := hperm.1; have h2 := HK.out.2.1; simp at this; omega
        have hpm := perm_mem hperm HK.out.2.1
        have hcI : ∀ x ∈ chg H hr g, FST ≤ x ∧ x ≤ 9218868437227405312 := chg_ok HT.out.1
        have hdI : ∀ i, i < d'.size → d'[i]! ≤ 9218868437227405312 := fun i hi => (hcI _ ((hpm _).1 ⟨i, hi, rfl⟩)).2
        have cC := compact_f (blk := blk) (cap := c) d' hdI (by rw [hds]; exact hsort) W5 hview.holds (by omega) (by omega)
        rw [hds] at cC
        have HV : Hid (Below blk W4 W5) := ⟨hview.os, hview.tape, hview.output, hview.grew, fun k hk => hview.other k (by omega) (by omega)⟩
        have HP := (show Hid _ from And.intro hpm hcI)
        have hbl5 : blk < W5.heap.size := hview.blk
        clear cS hperm hsort hview hpm hdI hcI
        go_wp2_with fail
        refine cC.mono ?_
        rintro e W6 ⟨C, rfl, hC1, hC2, hC3, hb6, hCl⟩
        have hAsc : Asc (chg H hr g) C := ⟨hC1, fun x => by rw [hC2, ← hds]; exact HP.out.1 x⟩
        have hCI : ∀ x ∈ C, FST ≤ x ∧ x ≤ 9218868437227405312 := fun x hx => HP.out.2 x ((hAsc.2 x).1 hx)
        have hb26 : Below W2.heap.size W2 W6 := HK.out.1.below.trans ((HV.out.trans hb6).mono hbl)
        have HX : Hid (Bx W (w.heap.size + 1) w.heap.size sb so s.size cs lo up hr gp gn gc s g W6 ∧ Below w.heap.size w W6) := ⟨HB3.out.1.next hb26, HB3.out.2.trans (hb26.mono HB3.out.2.size)⟩
        have HC := (show Hid _ from And.intro hAsc (And.intro hCI hC3))
        have hbl6 : blk < W6.heap.size := Nat.lt_of_lt_of_le hbl5 hb6.size
        clear cC HK HP HV HB3 hC1 hC2 hC3 hb6 hAsc hCI hb26 hds d' hbl5
        have l0 : (0 : Int) ≤ (C.length : Int) := by omega
        have l1 : (C.length : Int) ≤ 8201 := by omega
        go_wp2_with fail
        go_loopw [12, 62] (fun v12 v62 wr => ∃ (i dep : Nat), v12 = .float .f64 dep ∧ v62 = .int .i64 i ∧ i ≤ C.length ∧ dep ≤ 9218868437227405312 ∧ Below W6.heap.size W6 wr ∧ depL (bey s.size h2 H hr lo up g v ab) C 0 = depL (bey s.size h2 H hr lo up g v ab) (C.drop i) dep) (fun _ v62 _ => C.length - (intOf v62).toNat)
        case atStart => exact ⟨0, 0, rfl, rfl, Nat.zero_le _, Nat.zero_le _, Below.refl _ _, rfl⟩
        case round =>
          obtain ⟨i, dep, rfl, rfl, hi, hdI, hbr, hdep⟩ := hrel
          have i0 : (0 : Int) ≤ (i : Int) := by omega
          by_cases hin : i < C.length
          · have i1 : (i : Int) < (C.length : Int) := by omega
            obtain ⟨x, hx⟩ : ∃ x, C[i]? = some x := ⟨_, List.getElem?_eq_getElem hin⟩
            obtain ⟨hx1, hx2⟩ := HC.out.2.1 x (List.mem_of_getElem? hx)
            have cx : wr.cell? ⟨blk, i, none⟩ = some (.float .f64 x) := (hbr.cell (p := ⟨blk, i, none⟩) hbl6).trans (HC.out.2.2 i x hx)
            have hw1 : IntKind.i64.wrap ((i : Int) + 1) = (i : Int) + 1 := wrapI (by omega) (by omega)
            have cI := inf_f wr
            have e1 := run_mul (within_last_eq hx2)
            have HD : Hid (depL (bey s.size h2 H hr lo up g v ab) C 0 = depL (bey s.size h2 H hr lo up g v ab) (C.drop (i + 1)) (stepD (bey s.size h2 H hr lo up g v ab x C[i + 1]?) x (C[i + 1]?.getD 9218868437227405312) dep)) := hdep.trans (depL_drop hx)
            have HWI : Hid (FST ≤ withinF x C[i + 1]? ∧ withinF x C[i + 1]? ≤ 9218868437227405312) := within_ok hx1 hx2 _ fun y hy => HC.out.2.1 y (List.mem_of_getElem? hy)
            have HU : Hid (C[i + 1]?.getD 9218868437227405312 ≤ 9218868437227405312) := by
              show _ ≤ _
              cases h : C[i + 1]? with
              | none => exact Nat.le_refl _
              | some y => exact (HC.out.2.1 y (List.mem_of_getElem? h)).2
            have HBR := (show Hid _ from hbr)
            clear hdep hx
            go_wp2_with fail
            refine cI.mono ?_
            rintro e W7 ⟨rfl, hW7⟩
            rw [hW7]
            clear cI hW7 W7
            by_cases hin2 : i + 1 < C.length
            · have i2 : (i : Int) + 1 < (C.length : Int) := by omega
              obtain ⟨y, hy⟩ : ∃ y, C[i + 1]? = some y := ⟨_, List.getElem?_eq_getElem hin2⟩
              have hy2 := (HC.out.2.1 y (List.mem_of_getElem? hy)).2
              have cy : wr.cell? ⟨blk, i + 1, none⟩ = some (.float .f64 y) := (hbr.cell (p := ⟨blk, i + 1, none⟩) hbl6).trans (HC.out.2.2 (i + 1) y hy)
              obtain ⟨ha, hb, q1, q2, q3⟩ := within_mid_eq hx2 hy2
              have r1 := run_div q1
              have r2 := run_div q2
              have r3 := run_add q3
              rw [hy] at HD HWI HU
              clear q1 q2 q3 hy
              go_upto_region 23 with fail
              clear r1 r2 r3 cy cx e1 i2
              have HU : Hid (y ≤ 9218868437227405312) := hy2
              have HD : Hid (depL (bey s.size h2 H hr lo up g v ab) C 0 = depL (bey s.size h2 H hr lo up g v ab) (C.drop (i + 1)) (stepD (bey s.size h2 H hr lo up g v ab x (some y)) x y dep)) := HD.out
              generalize y = un at *
              have hbx := HX.out.1.next hbr
              have HBE : Hid (bey s.size h2 H hr lo up g v ab x (some un) = if (D.order v ab == some .gt) = true then byU v h2 hr (topI s.size H (wid hr (withinF x (some un))) up g) else byD v h2 hr (botI s.size H (wid hr (withinF x (some un))) lo g)) := rfl
              generalize bey s.size h2 H hr lo up g v ab x (some un) = bv at *
              generalize withinF x (some un) = wi at *
              obtain ⟨aw, hd1, hd2⟩ := HT.out.1.wide wi HWI.out.1 HWI.out.2
              rcases HT.out.2.2 with hnan | ⟨hnn, v2, hv2, hvt⟩
              · have cQ : ∀ w', Below wr.heap.size wr w' → Calls Ybad.prog 23 #[clv sb so s.size cs lo up hr gp gn gc, .float .f64 wi] w' fun e w'' => e = .returned (.int .i64 (botI s.size H (wid hr wi) lo g : Nat)) ∧ Below wr.heap.size wr w'' := fun w' hC =>
                  (bottom_f (cs := cs) (up := up) (gc := gc) HT.out.1.fl (hbx.next hC).m (hbx.next hC).le (by have := HT.out.1.n1; omega) HT.out.2.1 (by have := HT.out.1.gl; omega) HT.out.1.gk (HT.out.1.cmp wi HWI.out.1 HWI.out.2) hd1 hd2 HT.out.1.lo).mono fun e w'' h => ⟨h.1, hC.trans (h.2.mono hC.size)⟩
                have htl : botI s.size H (wid hr wi) lo g < s.size := botI_lt (lo := lo) (H := H) (wd := wid hr wi) HT.out.1.n0 HT.out.1.gk
                have r1 := run_div (HT.out.1.fl.div _ htl)
                generalize botI s.size H (wid hr wi) lo g = tt at *
                have t1 : (tt : Int) < (s.size : Int) := by omega
                have t2 : (0 : Int) ≤ (tt : Int) := by omega
                refine wp_region_typed (C := fun w' => Below wr.heap.size wr w') (Φ := PhiN w.heap.size (clv sb so s.size cs lo up hr gp gn gc) (.slice (some ⟨sb, so, none⟩) s.size cs) wi tt sb so s[tt]! (h2 tt) v hr) (by kernel_rfl) (by kernel_rfl) (by kernel_rfl) below_drawn ?tyOps ?tyEnd
                case tyOps =>
                  simp only [AllT, and_true]
                  refine ⟨?_, ?_, ?_, ?_, ?_, ?_, ?_, ?_, ?_, ?_, ?_, ?_, ?_, ?_, ?_⟩
                  · intro a w' hC hout hin d hd
                    cases hd
                    have e2 : a.eval (.tmp 2) = .pointer (some ⟨w.heap.size, 0, none⟩) := hout 2 (by decide)
                    clear hout hin
                    generalize a.eval = ρ at *
                    exact tr_value (u := .pointer (some ⟨w.heap.size, 0, none⟩)) (w' := w') (by simp [go_sem, e2]) hC rfl
                  · intro a w' hC hout hin d hd
                    cases hd
                    have e85 : a.eval (.tmp 85) = .pointer (some ⟨w.heap.size, 0, none⟩) := hin 85 (by decide) (by decide)
                    have hb' := hbx.next hC
                    clear hout hin
                    generalize a.eval = ρ at *
                    have k0 := hb'.c0
                    exact tr_value (u := .slice (some ⟨sb, so, none⟩) s.size cs) (w' := w') (by simp [go_sem, e85, k0]) hC rfl
                  · intro a w' hC hout hin d hd
                    cases hd
                    have e2 : a.eval (.tmp 2) = .pointer (some ⟨w.heap.size, 0, none⟩) := hout 2 (by decide)
                    have hb' := hbx.next hC
                    clear hout hin
                    generalize a.eval = ρ at *
                    have k0 := hb'.c0
                    have k1 := hb'.c1
                    have k2 := hb'.c2
                    have k3 := hb'.c3
                    have k4 := hb'.c4
                    exact tr_value (u := clv sb so s.size cs lo up hr gp gn gc) (w' := w') (by simp [go_sem, e2, k0, k1, k2, k3, k4]) hC rfl
                  · intro a w' hC hout hin d hd
                    cases hd
                    have e16 : a.eval (.tmp 16) = .float .f64 wi := hout 16 (by decide)
                    clear hout hin
                    generalize a.eval = ρ at *
                    exact tr_value (u := .float .f64 wi) (w' := w') (by simp [go_sem, e16]) hC rfl
                  · intro a w' hC hout hin d hd
                    cases hd
                    have e87 : a.eval (.tmp 87) = clv sb so s.size cs lo up hr gp gn gc := hin 87 (by decide) (by decide)
                    have e88 : a.eval (.tmp 88) = .float .f64 wi := hin 88 (by decide) (by decide)
                    have ef : ∀ f, a.eval (.func f) = .func (.func f) #[] #[] := fun _ => rfl
                    clear hout hin
                    generalize a.eval = ρ at *
                    exact tr_enter (f := 23) (args := #[clv sb so s.size cs lo up hr gp gn gc, .float .f64 wi]) (w' := w') (by simp [go_sem, e87, e88, ef]) ((cQ w' hC).mono fun e w'' h => ⟨_, h.1, rfl, h.2⟩)
                  · intro a w' hC hout hin d hd
                    cases hd
                    have e86 : a.eval (.tmp 86) = .slice (some ⟨sb, so, none⟩) s.size cs := hin 86 (by decide) (by decide)
                    have e89 : a.eval (.tmp 89) = .int .i64 (tt : Int) := hin 89 (by decide) (by decide)
                    clear hout hin
                    generalize a.eval = ρ at *
                    exact tr_value (u := .pointer (some ⟨sb, so + tt, none⟩)) (w' := w') (by simp [go_sem, e86, e89, t1, t2]) hC rfl
                  · intro a w' hC hout hin d hd
                    cases hd
                    have e90 : a.eval (.tmp 90) = .pointer (some ⟨sb, so + tt, none⟩) := hin 90 (by decide) (by decide)
                    have hb' := hbx.next hC
                    clear hout hin
                    generalize a.eval = ρ at *
                    have ks := hb'.m.sc tt htl
                    exact tr_value (u := .float .f64 s[tt]!) (w' := w') (by simp [go_sem, e90, ks]) hC rfl
                  · intro a w' hC hout hin d hd
                    cases hd
                    have e91 : a.eval (.tmp 91) = .float .f64 s[tt]! := hin 91 (by decide) (by decide)
                    have ec : ∀ x, a.eval (.const x) = x := fun _ => rfl
                    clear hout hin
                    generalize a.eval = ρ at *
                    exact tr_value (u := .float .f64 (h2 tt)) (w' := w') (by simp [go_sem, e91, ec, r1]) hC rfl
                  · intro a w' hC hout hin d hd
                    cases hd
                    have e1 : a.eval (.tmp 1) = .float .f64 v := hout 1 (by decide)
                    clear hout hin
                    generalize a.eval = ρ at *
                    exact tr_value (u := .float .f64 v) (w' := w') (by simp [go_sem, e1]) hC rfl
                  · intro a w' hC hout hin d hd
                    cases hd
                    have e93 : a.eval (.tmp 93) = .float .f64 v := hin 93 (by decide) (by decide)
                    have ec : ∀ x, a.eval (.const x) = x := fun _ => rfl
                    clear hout hin
                    generalize a.eval = ρ at *
                    obtain ⟨r, x1, x2, er⟩ := run_div_nan (div_nan (y := two) hnan) w'
                    exact tr_value (u := .float .f64 r) (w' := { w' with drawn := w'.drawn + 1 }) (by simp [go_sem, e93, ec, er]) (below_drawn2 hC) ⟨r, x1, x2, rfl⟩
                  · intro a w' hC hout hin d hd
                    cases hd
                    have e92 : a.eval (.tmp 92) = .float .f64 (h2 tt) := hin 92 (by decide) (by decide)
                    obtain ⟨n94, m94, _, e94⟩ : ∃ r, nanF r = true ∧ r < 18446744073709551616 ∧ a.eval (.tmp 94) = .float .f64 r := hin 94 (by decide) (by decide)
                    clear hout hin
                    generalize a.eval = ρ at *
                    obtain ⟨r, x1, x2, er⟩ := run_sub_nan (sub_nan_right (x := h2 tt) m94) w'
                    exact tr_value (u := .float .f64 r) (w' := { w' with drawn := w'.drawn + 1 }) (by simp [go_sem, e92, e94, er]) (below_drawn2 hC) ⟨r, x1, x2, rfl⟩
                  · intro a w' hC hout hin d hd
                    cases hd
                    have e2 : a.eval (.tmp 2) = .pointer (some ⟨w.heap.size, 0, none⟩) := hout 2 (by decide)
                    clear hout hin
                    generalize a.eval = ρ at *
                    exact tr_value (u := .pointer (some ⟨w.heap.size, 3, none⟩)) (w' := w') (by simp [go_sem, e2]) hC rfl
                  · intro a w' hC hout hin d hd
                    cases hd
                    have e96 : a.eval (.tmp 96) = .pointer (some ⟨w.heap.size, 3, none⟩) := hin 96 (by decide) (by decide)
                    have hb' := hbx.next hC
                    clear hout hin
                    generalize a.eval = ρ at *
                    have k3 := hb'.c3
                    exact tr_value (u := .float .f64 hr) (w' := w') (by simp [go_sem, e96, k3]) hC rfl
                  · intro a w' hC hout hin d hd
                    cases hd
                    obtain ⟨n95, m95, _, e95⟩ : ∃ r, nanF r = true ∧ r < 18446744073709551616 ∧ a.eval (.tmp 95) = .float .f64 r := hin 95 (by decide) (by decide)
                    have e97 : a.eval (.tmp 97) = .float .f64 hr := hin 97 (by decide) (by decide)
                    clear hout hin
                    generalize a.eval = ρ at *
                    obtain ⟨r, x1, x2, er⟩ := run_div_nan (div_nan (y := hr) m95) w'
                    exact tr_value (u := .float .f64 r) (w' := { w' with drawn := w'.drawn + 1 }) (by simp [go_sem, e95, e97, er]) (below_drawn2 hC) ⟨r, x1, x2, rfl⟩
                  · intro a w' hC hout hin d hd
                    cases hd
                    obtain ⟨n98, m98, _, e98⟩ : ∃ r, nanF r = true ∧ r < 18446744073709551616 ∧ a.eval (.tmp 98) = .float .f64 r := hin 98 (by decide) (by decide)
                    clear hout hin
                    generalize a.eval = ρ at *
                    exact tr_value (u := .float .f64 n98) (w' := w') (by simp [go_sem, e98]) hC ⟨n98, m98, by assumption, rfl⟩
                case tyEnd =>
                  intro us W7 hb7 hus
                  have hw17 : ∃ r, nanF r = true ∧ r < 18446744073709551616 ∧ us 17 = .float .f64 r := hus 17 (by decide)
                  obtain ⟨bb, hbn, hbb, h17⟩ := hw17
                  clear hus
                  simp only [dsts, List.filterMap_cons, List.filterMap_nil, List.foldl_cons, List.foldl_nil, Act.put, List.setIfInBounds_toArray, List.set_cons_succ, List.set_cons_zero]
                  rw [h17]
                  clear h17
                  have hab : (D.order v ab == some .gt) = false := by rw [order_nan (.inl hnan)]; rfl
                  have hab2 : (FloatKind.f64.format.order v ab == some Ordering.gt) = false := hab
                  have hbv : nanF bv = true := by
                    rw [HBE.out, if_neg (by rw [hab]; decide)]
                    unfold byD
                    rw [div_nan hnan]
                    show nanF NANW = true
                    rw [nanF_iff]; decide
                  have hBB : BB v bv bb := .inr ⟨hbn, hbv, hnan⟩
                  clear hbv hbn hbb cQ r1
                  go_upto_region 26 with fail
                  clear hab hab2
                  have HR : Hid (Below W6.heap.size W6 W7) := hbr.trans (hb7.mono hbr.size)
                  have hgb := hBB.gt (x := x)
                  cases hg : (D.order bb x == some .gt) with
                  | false =>
                    have hg2 : (FloatKind.f64.format.order bb x == some Ordering.gt) = false := hg
                    rw [hg] at hgb
                    have HS : Hid (stepD bv x un dep = dep) := by show _ = _; unfold stepD; rw [← hgb]; rfl
                    clear hBB hgb hg hbx hb7
                    go_wp2_with fail
                    go_roundw
                    case rel =>
                      go_light
                      exact ⟨i + 1, dep, rfl, by go_num, by omega, hdI, HR.out, by rw [HD.out, HS.out]⟩
                    case measure => simp [intOf]; omega
                  | true =>
                    have hg2 : (FloatKind.f64.format.order bb x == some Ordering.gt) = true := hg
                    obtain ⟨hbe, hb64⟩ := hBB.eq hg
                    obtain ⟨hbI, _⟩ := gt_pos hb64 (show 0 < x from Nat.lt_of_lt_of_le (by decide) hx1) hx2 hg
                    rw [hg] at hgb
                    have HS : Hid (stepD bv x un dep = max dep (min bb un)) := by show _ = _; unfold stepD; rw [← hgb, hbe]; rfl
                    have em := run_minF hbI HU.out #[23, 23] 23
                    have eM := run_maxF hdI (Nat.le_trans (Nat.min_le_left bb un) hbI) #[23, 23] 23
                    have HI2 : Hid (max dep (min bb un) ≤ 9218868437227405312) := Nat.max_le.2 ⟨hdI, Nat.le_trans (Nat.min_le_left bb un) hbI⟩
                    clear hBB hgb hg hbx hb7 hbe
                    generalize min bb un = mn at *
                    generalize max dep mn = mx at *
                    go_wp2_with fail
                    go_roundw
                    case rel =>
                      go_light
                      exact ⟨i + 1, mx, rfl, by go_num, by omega, HI2.out, HR.out, by rw [HD.out, HS.out]⟩
                    case measure => simp [intOf]; omega
              · clear hnn
                obtain ⟨ι, f, hf, hfs⟩ := class_of (fun w' => Below wr.heap.size wr w')
                have hbf : ∀ j, Bx W (w.heap.size + 1) w.heap.size sb so s.size cs lo up hr gp gn gc s g (f j) := fun j => hbx.next (hf j)
                have c0 : ∀ j, (f j).cell? ⟨w.heap.size, 0, none⟩ = _ := fun j => (hbf j).c0
                have c1 : ∀ j, (f j).cell? ⟨w.heap.size, 1, none⟩ = _ := fun j => (hbf j).c1
                have c2 : ∀ j, (f j).cell? ⟨w.heap.size, 2, none⟩ = _ := fun j => (hbf j).c2
                have c3 : ∀ j, (f j).cell? ⟨w.heap.size, 3, none⟩ = _ := fun j => (hbf j).c3
                have c4 : ∀ j, (f j).cell? ⟨w.heap.size, 4, none⟩ = _ := fun j => (hbf j).c4
                have HQ : Hid (∀ j, Calls Ybad.prog 23 #[clv sb so s.size cs lo up hr gp gn gc, .float .f64 wi] (f j) fun e w' => e = .returned (.int .i64 (botI s.size H (wid hr wi) lo g : Nat)) ∧ ∃ j, w' = f j) := fun j =>
                  (bottom_f (cs := cs) (up := up) (gc := gc) HT.out.1.fl (hbf j).m (hbf j).le (by have := HT.out.1.n1; omega) HT.out.2.1 (by have := HT.out.1.gl; omega) HT.out.1.gk (HT.out.1.cmp wi HWI.out.1 HWI.out.2) hd1 hd2 HT.out.1.lo).mono fun e w' h => ⟨h.1, hfs _ ((hf j).trans (h.2.mono (hf j).size))⟩
                have htl : botI s.size H (wid hr wi) lo g < s.size := botI_lt (lo := lo) (H := H) (wd := wid hr wi) HT.out.1.n0 HT.out.1.gk
                have sc : ∀ j, (f j).cell? ⟨sb, so + botI s.size H (wid hr wi) lo g, none⟩ = some (.float .f64 s[botI s.size H (wid hr wi) lo g]!) := fun j => (hbf j).m.sc _ htl
                have h0 : ∃ j, { wr with drawn := wr.drawn + 1 } = f j := hfs _ below_drawn
                have HF := (show Hid (∀ j, Below wr.heap.size wr (f j)) from hf)
                have _ : Nonempty ι := ⟨h0.choose⟩
                have r1 := run_div (HT.out.1.fl.div _ htl)
                have r2 := run_div hv2
                obtain ⟨a5, q3, q4, q5⟩ := (hvt _ htl).2
                have r3 := run_sub q3
                have r4 := run_div q4
                have HB5 := (show Hid _ from q5)
                clear hbf hfs hf q3 q4 q5
                generalize byD v h2 hr (botI s.size H (wid hr wi) lo g) = bb at *
                generalize botI s.size H (wid hr wi) lo g = tt at *
                generalize s[tt]! = xx at *
                generalize h2 tt = hh at *
                have t1 : (tt : Int) < (s.size : Int) := by omega
                have t2 : (0 : Int) ≤ (tt : Int) := by omega
                refine wp_region_class f (by kernel_rfl) (by kernel_rfl) h0 ?_
                clear h0
                repeat (go_big_quiet_step (exact HQ.out _))
                refine wpQuiet_nil ?_
                rintro _ ⟨j, rfl⟩
                have hb8 : Below wr.heap.size wr (f j) := HF.out j
                clear c0 c1 c2 c3 c4 HQ HF sc r1 r2 r3 r4
                generalize f j = W8 at *

                cases hab : (D.order v ab == some .gt) with
                | false =>
                  have hab2 : (FloatKind.f64.format.order v ab == some Ordering.gt) = false := hab
                  have hBB : BB v bv bb := .inl ⟨by rw [HBE.out, hab]; rfl, HB5.out⟩
                  have hb7 := hb8
                  go_upto_region 26 with fail
                  clear hab2 hab
                  generalize W8 = W7 at *
                  have HR : Hid (Below W6.heap.size W6 W7) := hbr.trans (hb7.mono hbr.size)
                  have hgb := hBB.gt (x := x)
                  cases hg : (D.order bb x == some .gt) with
                  | false =>
                    have hg2 : (FloatKind.f64.format.order bb x == some Ordering.gt) = false := hg
                    rw [hg] at hgb
                    have HS : Hid (stepD bv x un dep = dep) := by show _ = _; unfold stepD; rw [← hgb]; rfl
                    clear hBB hgb hg hbx hb7
                    go_wp2_with fail
                    go_roundw
                    case rel =>
                      go_light
                      exact ⟨i + 1, dep, rfl, by go_num, by omega, hdI, HR.out, by rw [HD.out, HS.out]⟩
                    case measure => simp [intOf]; omega
                  | true =>
                    have hg2 : (FloatKind.f64.format.order bb x == some Ordering.gt) = true := hg
                    obtain ⟨hbe, hb64⟩ := hBB.eq hg
                    obtain ⟨hbI, _⟩ := gt_pos hb64 (show 0 < x from Nat.lt_of_lt_of_le (by decide) hx1) hx2 hg
                    rw [hg] at hgb
                    have HS : Hid (stepD bv x un dep = max dep (min bb un)) := by show _ = _; unfold stepD; rw [← hgb, hbe]; rfl
                    have em := run_minF hbI HU.out #[23, 23] 23
                    have eM := run_maxF hdI (Nat.le_trans (Nat.min_le_left bb un) hbI) #[23, 23] 23
                    have HI2 : Hid (max dep (min bb un) ≤ 9218868437227405312) := Nat.max_le.2 ⟨hdI, Nat.le_trans (Nat.min_le_left bb un) hbI⟩
                    clear hBB hgb hg hbx hb7 hbe
                    generalize min bb un = mn at *
                    generalize max dep mn = mx at *
                    go_wp2_with fail
                    go_roundw
                    case rel =>
                      go_light
                      exact ⟨i + 1, mx, rfl, by go_num, by omega, HI2.out, HR.out, by rw [HD.out, HS.out]⟩
                    case measure => simp [intOf]; omega

                | true =>
                  have hab2 : (FloatKind.f64.format.order v ab == some Ordering.gt) = true := hab
                  clear HB5
                  generalize bb = bb0 at *
                  generalize tt = tt0 at *
                  have hbx := hbx.next hb8
                  go_upto_region 25 with fail
                  clear hab2
                  obtain ⟨ι, f, hf, hfs⟩ := class_of (fun w' => Below W8.heap.size W8 w')
                  have hbf : ∀ j, Bx W (w.heap.size + 1) w.heap.size sb so s.size cs lo up hr gp gn gc s g (f j) := fun j => hbx.next (hf j)
                  have c0 : ∀ j, (f j).cell? ⟨w.heap.size, 0, none⟩ = _ := fun j => (hbf j).c0
                  have c1 : ∀ j, (f j).cell? ⟨w.heap.size, 1, none⟩ = _ := fun j => (hbf j).c1
                  have c2 : ∀ j, (f j).cell? ⟨w.heap.size, 2, none⟩ = _ := fun j => (hbf j).c2
                  have c3 : ∀ j, (f j).cell? ⟨w.heap.size, 3, none⟩ = _ := fun j => (hbf j).c3
                  have c4 : ∀ j, (f j).cell? ⟨w.heap.size, 4, none⟩ = _ := fun j => (hbf j).c4
                  have HQ : Hid (∀ j, Calls Ybad.prog 24 #[clv sb so s.size cs lo up hr gp gn gc, .float .f64 wi] (f j) fun e w' => e = .returned (.int .i64 (topI s.size H (wid hr wi) up g : Nat)) ∧ ∃ j, w' = f j) := fun j =>
                    (top_f (cs := cs) (lo := lo) (gc := gc) HT.out.1.fl (hbf j).m (hbf j).le (by have := HT.out.1.n1; omega) HT.out.1.n0 HT.out.2.1 (by have := HT.out.1.gl; omega) HT.out.1.gk (HT.out.1.cmp wi HWI.out.1 HWI.out.2) hd1 hd2 HT.out.1.up).mono fun e w' h => ⟨h.1, hfs _ ((hf j).trans (h.2.mono (hf j).size))⟩
                  have htl : topI s.size H (wid hr wi) up g < s.size := topI_lt (up := up) (H := H) (wd := wid hr wi) HT.out.1.n0 HT.out.1.gk
                  have sc : ∀ j, (f j).cell? ⟨sb, so + topI s.size H (wid hr wi) up g, none⟩ = some (.float .f64 s[topI s.size H (wid hr wi) up g]!) := fun j => (hbf j).m.sc _ htl
                  have h0 : ∃ j, { W8 with drawn := W8.drawn + 1 } = f j := hfs _ below_drawn
                  have HF := (show Hid (∀ j, Below W8.heap.size W8 (f j)) from hf)
                  have _ : Nonempty ι := ⟨h0.choose⟩
                  have r1 := run_div (HT.out.1.fl.div _ htl)
                  have r2 := run_div hv2
                  obtain ⟨a5, q3, q4, q5⟩ := (hvt _ htl).1
                  have r3 := run_sub q3
                  have r4 := run_div q4
                  have HB5 := (show Hid _ from q5)
                  clear hbf hfs hf q3 q4 q5
                  generalize byU v h2 hr (topI s.size H (wid hr wi) up g) = bb at *
                  generalize topI s.size H (wid hr wi) up g = tt at *
                  generalize s[tt]! = xx at *
                  generalize h2 tt = hh at *
                  have t1 : (tt : Int) < (s.size : Int) := by omega
                  have t2 : (0 : Int) ≤ (tt : Int) := by omega
                  refine wp_region_class f (by kernel_rfl) (by kernel_rfl) h0 ?_
                  clear h0
                  repeat (go_big_quiet_step (exact HQ.out _))
                  refine wpQuiet_nil ?_
                  rintro _ ⟨j, rfl⟩
                  have hb9 : Below W8.heap.size W8 (f j) := HF.out j
                  clear c0 c1 c2 c3 c4 HQ HF sc r1 r2 r3 r4
                  generalize f j = W9 at *

                  have hBB : BB v bv bb := .inl ⟨by rw [HBE.out, hab]; rfl, HB5.out⟩
                  have hb7 := hb8.trans (hb9.mono hb8.size)
                  go_upto_region 26 with fail
                  clear hab hb9
                  generalize W9 = W7 at *
                  have HR : Hid (Below W6.heap.size W6 W7) := hbr.trans (hb7.mono hbr.size)
                  have hgb := hBB.gt (x := x)
                  cases hg : (D.order bb x == some .gt) with
                  | false =>
                    have hg2 : (FloatKind.f64.format.order bb x == some Ordering.gt) = false := hg
                    rw [hg] at hgb
                    have HS : Hid (stepD bv x un dep = dep) := by show _ = _; unfold stepD; rw [← hgb]; rfl
                    clear hBB hgb hg hbx hb7
                    go_wp2_with fail
                    go_roundw
                    case rel =>
                      go_light
                      exact ⟨i + 1, dep, rfl, by go_num, by omega, hdI, HR.out, by rw [HD.out, HS.out]⟩
                    case measure => simp [intOf]; omega
                  | true =>
                    have hg2 : (FloatKind.f64.format.order bb x == some Ordering.gt) = true := hg
                    obtain ⟨hbe, hb64⟩ := hBB.eq hg
                    obtain ⟨hbI, _⟩ := gt_pos hb64 (show 0 < x from Nat.lt_of_lt_of_le (by decide) hx1) hx2 hg
                    rw [hg] at hgb
                    have HS : Hid (stepD bv x un dep = max dep (min bb un)) := by show _ = _; unfold stepD; rw [← hgb, hbe]; rfl
                    have em := run_minF hbI HU.out #[23, 23] 23
                    have eM := run_maxF hdI (Nat.le_trans (Nat.min_le_left bb un) hbI) #[23, 23] 23
                    have HI2 : Hid (max dep (min bb un) ≤ 9218868437227405312) := Nat.max_le.2 ⟨hdI, Nat.le_trans (Nat.min_le_left bb un) hbI⟩
                    clear hBB hgb hg hbx hb7 hbe
                    generalize min bb un = mn at *
                    generalize max dep mn = mx at *
                    go_wp2_with fail
                    go_roundw
                    case rel =>
                      go_light
                      exact ⟨i + 1, mx, rfl, by go_num, by omega, HI2.out, HR.out, by rw [HD.out, HS.out]⟩
                    case measure => simp [intOf]; omega

            · have i2 : ¬ (i : Int) + 1 < (C.length : Int) := by omega
              have hy : C[i + 1]? = none := List.getElem?_eq_none_iff.2 (by omega)
              rw [hy] at HD HWI HU
              clear hy
              go_upto_region 23 with fail
              clear cx e1 i2
              have HU : Hid ((9218868437227405312 : Nat) ≤ 9218868437227405312) := Nat.le_refl _
              have HD : Hid (depL (bey s.size h2 H hr lo up g v ab) C 0 = depL (bey s.size h2 H hr lo up g v ab) (C.drop (i + 1)) (stepD (bey s.size h2 H hr lo up g v ab x none) x 9218868437227405312 dep)) := HD.out
              obtain ⟨un, hun⟩ : ∃ un : Nat, un = 9218868437227405312 := ⟨_, rfl⟩
              rw [← hun] at HU HD ⊢
              have HU : Hid (un ≤ 9218868437227405312) := by rw [hun]; exact Nat.le_refl 9218868437227405312
              clear hun
              have hbx := HX.out.1.next hbr
              have HBE : Hid (bey s.size h2 H hr lo up g v ab x none = if (D.order v ab == some .gt) = true then byU v h2 hr (topI s.size H (wid hr (withinF x none)) up g) else byD v h2 hr (botI s.size H (wid hr (withinF x none)) lo g)) := rfl
              generalize bey s.size h2 H hr lo up g v ab x none = bv at *
              generalize withinF x none = wi at *
              obtain ⟨aw, hd1, hd2⟩ := HT.out.1.wide wi HWI.out.1 HWI.out.2
              rcases HT.out.2.2 with hnan | ⟨hnn, v2, hv2, hvt⟩
              · have cQ : ∀ w', Below wr.heap.size wr w' → Calls Ybad.prog 23 #[clv sb so s.size cs lo up hr gp gn gc, .float .f64 wi] w' fun e w'' => e = .returned (.int .i64 (botI s.size H (wid hr wi) lo g : Nat)) ∧ Below wr.heap.size wr w'' := fun w' hC =>
                  (bottom_f (cs := cs) (up := up) (gc := gc) HT.out.1.fl (hbx.next hC).m (hbx.next hC).le (by have := HT.out.1.n1; omega) HT.out.2.1 (by have := HT.out.1.gl; omega) HT.out.1.gk (HT.out.1.cmp wi HWI.out.1 HWI.out.2) hd1 hd2 HT.out.1.lo).mono fun e w'' h => ⟨h.1, hC.trans (h.2.mono hC.size)⟩
                have htl : botI s.size H (wid hr wi) lo g < s.size := botI_lt (lo := lo) (H := H) (wd := wid hr wi) HT.out.1.n0 HT.out.1.gk
                have r1 := run_div (HT.out.1.fl.div _ htl)
                generalize botI s.size H (wid hr wi) lo g = tt at *
                have t1 : (tt : Int) < (s.size : Int) := by omega
                have t2 : (0 : Int) ≤ (tt : Int) := by omega
                refine wp_region_typed (C := fun w' => Below wr.heap.size wr w') (Φ := PhiN w.heap.size (clv sb so s.size cs lo up hr gp gn gc) (.slice (some ⟨sb, so, none⟩) s.size cs) wi tt sb so s[tt]! (h2 tt) v hr) (by kernel_rfl) (by kernel_rfl) (by kernel_rfl) below_drawn ?tyOps ?tyEnd
                case tyOps =>
                  simp only [AllT, and_true]
                  refine ⟨?_, ?_, ?_, ?_, ?_, ?_, ?_, ?_, ?_, ?_, ?_, ?_, ?_, ?_, ?_⟩
                  · intro a w' hC hout hin d hd
                    cases hd
                    have e2 : a.eval (.tmp 2) = .pointer (some ⟨w.heap.size, 0, none⟩) := hout 2 (by decide)
                    clear hout hin
                    generalize a.eval = ρ at *
                    exact tr_value (u := .pointer (some ⟨w.heap.size, 0, none⟩)) (w' := w') (by simp [go_sem, e2]) hC rfl
                  · intro a w' hC hout hin d hd
                    cases hd
                    have e85 : a.eval (.tmp 85) = .pointer (some ⟨w.heap.size, 0, none⟩) := hin 85 (by decide) (by decide)
                    have hb' := hbx.next hC
                    clear hout hin
                    generalize a.eval = ρ at *
                    have k0 := hb'.c0
                    exact tr_value (u := .slice (some ⟨sb, so, none⟩) s.size cs) (w' := w') (by simp [go_sem, e85, k0]) hC rfl
                  · intro a w' hC hout hin d hd
                    cases hd
                    have e2 : a.eval (.tmp 2) = .pointer (some ⟨w.heap.size, 0, none⟩) := hout 2 (by decide)
                    have hb' := hbx.next hC
                    clear hout hin
                    generalize a.eval = ρ at *
                    have k0 := hb'.c0
                    have k1 := hb'.c1
                    have k2 := hb'.c2
                    have k3 := hb'.c3
                    have k4 := hb'.c4
                    exact tr_value (u := clv sb so s.size cs lo up hr gp gn gc) (w' := w') (by simp [go_sem, e2, k0, k1, k2, k3, k4]) hC rfl
                  · intro a w' hC hout hin d hd
                    cases hd
                    have e16 : a.eval (.tmp 16) = .float .f64 wi := hout 16 (by decide)
                    clear hout hin
                    generalize a.eval = ρ at *
                    exact tr_value (u := .float .f64 wi) (w' := w') (by simp [go_sem, e16]) hC rfl
                  · intro a w' hC hout hin d hd
                    cases hd
                    have e87 : a.eval (.tmp 87) = clv sb so s.size cs lo up hr gp gn gc := hin 87 (by decide) (by decide)
                    have e88 : a.eval (.tmp 88) = .float .f64 wi := hin 88 (by decide) (by decide)
                    have ef : ∀ f, a.eval (.func f) = .func (.func f) #[] #[] := fun _ => rfl
                    clear hout hin
                    generalize a.eval = ρ at *
                    exact tr_enter (f := 23) (args := #[clv sb so s.size cs lo up hr gp gn gc, .float .f64 wi]) (w' := w') (by simp [go_sem, e87, e88, ef]) ((cQ w' hC).mono fun e w'' h => ⟨_, h.1, rfl, h.2⟩)
                  · intro a w' hC hout hin d hd
                    cases hd
                    have e86 : a.eval (.tmp 86) = .slice (some ⟨sb, so, none⟩) s.size cs := hin 86 (by decide) (by decide)
                    have e89 : a.eval (.tmp 89) = .int .i64 (tt : Int) := hin 89 (by decide) (by decide)
                    clear hout hin
                    generalize a.eval = ρ at *
                    exact tr_value (u := .pointer (some ⟨sb, so + tt, none⟩)) (w' := w') (by simp [go_sem, e86, e89, t1, t2]) hC rfl
                  · intro a w' hC hout hin d hd
                    cases hd
                    have e90 : a.eval (.tmp 90) = .pointer (some ⟨sb, so + tt, none⟩) := hin 90 (by decide) (by decide)
                    have hb' := hbx.next hC
                    clear hout hin
                    generalize a.eval = ρ at *
                    have ks := hb'.m.sc tt htl
                    exact tr_value (u := .float .f64 s[tt]!) (w' := w') (by simp [go_sem, e90, ks]) hC rfl
                  · intro a w' hC hout hin d hd
                    cases hd
                    have e91 : a.eval (.tmp 91) = .float .f64 s[tt]! := hin 91 (by decide) (by decide)
                    have ec : ∀ x, a.eval (.const x) = x := fun _ => rfl
                    clear hout hin
                    generalize a.eval = ρ at *
                    exact tr_value (u := .float .f64 (h2 tt)) (w' := w') (by simp [go_sem, e91, ec, r1]) hC rfl
                  · intro a w' hC hout hin d hd
                    cases hd
                    have e1 : a.eval (.tmp 1) = .float .f64 v := hout 1 (by decide)
                    clear hout hin
                    generalize a.eval = ρ at *
                    exact tr_value (u := .float .f64 v) (w' := w') (by simp [go_sem, e1]) hC rfl
                  · intro a w' hC hout hin d hd
                    cases hd
                    have e93 : a.eval (.tmp 93) = .float .f64 v := hin 93 (by decide) (by decide)
                    have ec : ∀ x, a.eval (.const x) = x := fun _ => rfl
                    clear hout hin
                    generalize a.eval = ρ at *
                    obtain ⟨r, x1, x2, er⟩ := run_div_nan (div_nan (y := two) hnan) w'
                    exact tr_value (u := .float .f64 r) (w' := { w' with drawn := w'.drawn + 1 }) (by simp [go_sem, e93, ec, er]) (below_drawn2 hC) ⟨r, x1, x2, rfl⟩
                  · intro a w' hC hout hin d hd
                    cases hd
                    have e92 : a.eval (.tmp 92) = .float .f64 (h2 tt) := hin 92 (by decide) (by decide)
                    obtain ⟨n94, m94, _, e94⟩ : ∃ r, nanF r = true ∧ r < 18446744073709551616 ∧ a.eval (.tmp 94) = .float .f64 r := hin 94 (by decide) (by decide)
                    clear hout hin
                    generalize a.eval = ρ at *
                    obtain ⟨r, x1, x2, er⟩ := run_sub_nan (sub_nan_right (x := h2 tt) m94) w'
                    exact tr_value (u := .float .f64 r) (w' := { w' with drawn := w'.drawn + 1 }) (by simp [go_sem, e92, e94, er]) (below_drawn2 hC) ⟨r, x1, x2, rfl⟩
                  · intro a w' hC hout hin d hd
                    cases hd
                    have e2 : a.eval (.tmp 2) = .pointer (some ⟨w.heap.size, 0, none⟩) := hout 2 (by decide)
                    clear hout hin
                    generalize a.eval = ρ at *
                    exact tr_value (u := .pointer (some ⟨w.heap.size, 3, none⟩)) (w' := w') (by simp [go_sem, e2]) hC rfl
                  · intro a w' hC hout hin d hd
                    cases hd
                    have e96 : a.eval (.tmp 96) = .pointer (some ⟨w.heap.size, 3, none⟩) := hin 96 (by decide) (by decide)
                    have hb' := hbx.next hC
                    clear hout hin
                    generalize a.eval = ρ at *
                    have k3 := hb'.c3
                    exact tr_value (u := .float .f64 hr) (w' := w') (by simp [go_sem, e96, k3]) hC rfl
                  · intro a w' hC hout hin d hd
                    cases hd
                    obtain ⟨n95, m95, _, e95⟩ : ∃ r, nanF r = true ∧ r < 18446744073709551616 ∧ a.eval (.tmp 95) = .float .f64 r := hin 95 (by decide) (by decide)
                    have e97 : a.eval (.tmp 97) = .float .f64 hr := hin 97 (by decide) (by decide)
                    clear hout hin
                    generalize a.eval = ρ at *
                    obtain ⟨r, x1, x2, er⟩ := run_div_nan (div_nan (y := hr) m95) w'
                    exact tr_value (u := .float .f64 r) (w' := { w' with drawn := w'.drawn + 1 }) (by simp [go_sem, e95, e97, er]) (below_drawn2 hC) ⟨r, x1, x2, rfl⟩
                  · intro a w' hC hout hin d hd
                    cases hd
                    obtain ⟨n98, m98, _, e98⟩ : ∃ r, nanF r = true ∧ r < 18446744073709551616 ∧ a.eval (.tmp 98) = .float .f64 r := hin 98 (by decide) (by decide)
                    clear hout hin
                    generalize a.eval = ρ at *
                    exact tr_value (u := .float .f64 n98) (w' := w') (by simp [go_sem, e98]) hC ⟨n98, m98, by assumption, rfl⟩
                case tyEnd =>
                  intro us W7 hb7 hus
                  have hw17 : ∃ r, nanF r = true ∧ r < 18446744073709551616 ∧ us 17 = .float .f64 r := hus 17 (by decide)
                  obtain ⟨bb, hbn, hbb, h17⟩ := hw17
                  clear hus
                  simp only [dsts, List.filterMap_cons, List.filterMap_nil, List.foldl_cons, List.foldl_nil, Act.put, List.setIfInBounds_toArray, List.set_cons_succ, List.set_cons_zero]
                  rw [h17]
                  clear h17
                  have hab : (D.order v ab == some .gt) = false := by rw [order_nan (.inl hnan)]; rfl
                  have hab2 : (FloatKind.f64.format.order v ab == some Ordering.gt) = false := hab
                  have hbv : nanF bv = true := by
                    rw [HBE.out, if_neg (by rw [hab]; decide)]
                    unfold byD
                    rw [div_nan hnan]
                    show nanF NANW = true
                    rw [nanF_iff]; decide
                  have hBB : BB v bv bb := .inr ⟨hbn, hbv, hnan⟩
                  clear hbv hbn hbb cQ r1
                  go_upto_region 26 with fail
                  clear hab hab2
                  have HR : Hid (Below W6.heap.size W6 W7) := hbr.trans (hb7.mono hbr.size)
                  have hgb := hBB.gt (x := x)
                  cases hg : (D.order bb x == some .gt) with
                  | false =>
                    have hg2 : (FloatKind.f64.format.order bb x == some Ordering.gt) = false := hg
                    rw [hg] at hgb
                    have HS : Hid (stepD bv x un dep = dep) := by show _ = _; unfold stepD; rw [← hgb]; rfl
                    clear hBB hgb hg hbx hb7
                    go_wp2_with fail
                    go_roundw
                    case rel =>
                      go_light
                      exact ⟨i + 1, dep, rfl, by go_num, by omega, hdI, HR.out, by rw [HD.out, HS.out]⟩
                    case measure => simp [intOf]; omega
                  | true =>
                    have hg2 : (FloatKind.f64.format.order bb x == some Ordering.gt) = true := hg
                    obtain ⟨hbe, hb64⟩ := hBB.eq hg
                    obtain ⟨hbI, _⟩ := gt_pos hb64 (show 0 < x from Nat.lt_of_lt_of_le (by decide) hx1) hx2 hg
                    rw [hg] at hgb
                    have HS : Hid (stepD bv x un dep = max dep (min bb un)) := by show _ = _; unfold stepD; rw [← hgb, hbe]; rfl
                    have em := run_minF hbI HU.out #[23, 23] 23
                    have eM := run_maxF hdI (Nat.le_trans (Nat.min_le_left bb un) hbI) #[23, 23] 23
                    have HI2 : Hid (max dep (min bb un) ≤ 9218868437227405312) := Nat.max_le.2 ⟨hdI, Nat.le_trans (Nat.min_le_left bb un) hbI⟩
                    clear hBB hgb hg hbx hb7 hbe
                    generalize min bb un = mn at *
                    generalize max dep mn = mx at *
                    go_wp2_with fail
                    go_roundw
                    case rel =>
                      go_light
                      exact ⟨i + 1, mx, rfl, by go_num, by omega, HI2.out, HR.out, by rw [HD.out, HS.out]⟩
                    case measure => simp [intOf]; omega
              · clear hnn
                obtain ⟨ι, f, hf, hfs⟩ := class_of (fun w' => Below wr.heap.size wr w')
                have hbf : ∀ j, Bx W (w.heap.size + 1) w.heap.size sb so s.size cs lo up hr gp gn gc s g (f j) := fun j => hbx.next (hf j)
                have c0 : ∀ j, (f j).cell? ⟨w.heap.size, 0, none⟩ = _ := fun j => (hbf j).c0
                have c1 : ∀ j, (f j).cell? ⟨w.heap.size, 1, none⟩ = _ := fun j => (hbf j).c1
                have c2 : ∀ j, (f j).cell? ⟨w.heap.size, 2, none⟩ = _ := fun j => (hbf j).c2
                have c3 : ∀ j, (f j).cell? ⟨w.heap.size, 3, none⟩ = _ := fun j => (hbf j).c3
                have c4 : ∀ j, (f j).cell? ⟨w.heap.size, 4, none⟩ = _ := fun j => (hbf j).c4
                have HQ : Hid (∀ j, Calls Ybad.prog 23 #[clv sb so s.size cs lo up hr gp gn gc, .float .f64 wi] (f j) fun e w' => e = .returned (.int .i64 (botI s.size H (wid hr wi) lo g : Nat)) ∧ ∃ j, w' = f j) := fun j =>
                  (bottom_f (cs := cs) (up := up) (gc := gc) HT.out.1.fl (hbf j).m (hbf j).le (by have := HT.out.1.n1; omega) HT.out.2.1 (by have := HT.out.1.gl; omega) HT.out.1.gk (HT.out.1.cmp wi HWI.out.1 HWI.out.2) hd1 hd2 HT.out.1.lo).mono fun e w' h => ⟨h.1, hfs _ ((hf j).trans (h.2.mono (hf j).size))⟩
                have htl : botI s.size H (wid hr wi) lo g < s.size := botI_lt (lo := lo) (H := H) (wd := wid hr wi) HT.out.1.n0 HT.out.1.gk
                have sc : ∀ j, (f j).cell? ⟨sb, so + botI s.size H (wid hr wi) lo g, none⟩ = some (.float .f64 s[botI s.size H (wid hr wi) lo g]!) := fun j => (hbf j).m.sc _ htl
                have h0 : ∃ j, { wr with drawn := wr.drawn + 1 } = f j := hfs _ below_drawn
                have HF := (show Hid (∀ j, Below wr.heap.size wr (f j)) from hf)
                have _ : Nonempty ι := ⟨h0.choose⟩
                have r1 := run_div (HT.out.1.fl.div _ htl)
                have r2 := run_div hv2
                obtain ⟨a5, q3, q4, q5⟩ := (hvt _ htl).2
                have r3 := run_sub q3
                have r4 := run_div q4
                have HB5 := (show Hid _ from q5)
                clear hbf hfs hf q3 q4 q5
                generalize byD v h2 hr (botI s.size H (wid hr wi) lo g) = bb at *
                generalize botI s.size H (wid hr wi) lo g = tt at *
                generalize s[tt]! = xx at *
                generalize h2 tt = hh at *
                have t1 : (tt : Int) < (s.size : Int) := by omega
                have t2 : (0 : Int) ≤ (tt : Int) := by omega
                refine wp_region_class f (by kernel_rfl) (by kernel_rfl) h0 ?_
                clear h0
                repeat (go_big_quiet_step (exact HQ.out _))
                refine wpQuiet_nil ?_
                rintro _ ⟨j, rfl⟩
                have hb8 : Below wr.heap.size wr (f j) := HF.out j
                clear c0 c1 c2 c3 c4 HQ HF sc r1 r2 r3 r4
                generalize f j = W8 at *

                cases hab : (D.order v ab == some .gt) with
                | false =>
                  have hab2 : (FloatKind.f64.format.order v ab == some Ordering.gt) = false := hab
                  have hBB : BB v bv bb := .inl ⟨by rw [HBE.out, hab]; rfl, HB5.out⟩
                  have hb7 := hb8
                  go_upto_region 26 with fail
                  clear hab2 hab
                  generalize W8 = W7 at *
                  have HR : Hid (Below W6.heap.size W6 W7) := hbr.trans (hb7.mono hbr.size)
                  have hgb := hBB.gt (x := x)
                  cases hg : (D.order bb x == some .gt) with
                  | false =>
                    have hg2 : (FloatKind.f64.format.order bb x == some Ordering.gt) = false := hg
                    rw [hg] at hgb
                    have HS : Hid (stepD bv x un dep = dep) := by show _ = _; unfold stepD; rw [← hgb]; rfl
                    clear hBB hgb hg hbx hb7
                    go_wp2_with fail
                    go_roundw
                    case rel =>
                      go_light
                      exact ⟨i + 1, dep, rfl, by go_num, by omega, hdI, HR.out, by rw [HD.out, HS.out]⟩
                    case measure => simp [intOf]; omega
                  | true =>
                    have hg2 : (FloatKind.f64.format.order bb x == some Ordering.gt) = true := hg
                    obtain ⟨hbe, hb64⟩ := hBB.eq hg
                    obtain ⟨hbI, _⟩ := gt_pos hb64 (show 0 < x from Nat.lt_of_lt_of_le (by decide) hx1) hx2 hg
                    rw [hg] at hgb
                    have HS : Hid (stepD bv x un dep = max dep (min bb un)) := by show _ = _; unfold stepD; rw [← hgb, hbe]; rfl
                    have em := run_minF hbI HU.out #[23, 23] 23
                    have eM := run_maxF hdI (Nat.le_trans (Nat.min_le_left bb un) hbI) #[23, 23] 23
                    have HI2 : Hid (max dep (min bb un) ≤ 9218868437227405312) := Nat.max_le.2 ⟨hdI, Nat.le_trans (Nat.min_le_left bb un) hbI⟩
                    clear hBB hgb hg hbx hb7 hbe
                    generalize min bb un = mn at *
                    generalize max dep mn = mx at *
                    go_wp2_with fail
                    go_roundw
                    case rel =>
                      go_light
                      exact ⟨i + 1, mx, rfl, by go_num, by omega, HI2.out, HR.out, by rw [HD.out, HS.out]⟩
                    case measure => simp [intOf]; omega

                | true =>
                  have hab2 : (FloatKind.f64.format.order v ab == some Ordering.gt) = true := hab
                  clear HB5
                  generalize bb = bb0 at *
                  generalize tt = tt0 at *
                  have hbx := hbx.next hb8
                  go_upto_region 25 with fail
                  clear hab2
                  obtain ⟨ι, f, hf, hfs⟩ := class_of (fun w' => Below W8.heap.size W8 w')
                  have hbf : ∀ j, Bx W (w.heap.size + 1) w.heap.size sb so s.size cs lo up hr gp gn gc s g (f j) := fun j => hbx.next (hf j)
                  have c0 : ∀ j, (f j).cell? ⟨w.heap.size, 0, none⟩ = _ := fun j => (hbf j).c0
                  have c1 : ∀ j, (f j).cell? ⟨w.heap.size, 1, none⟩ = _ := fun j => (hbf j).c1
                  have c2 : ∀ j, (f j).cell? ⟨w.heap.size, 2, none⟩ = _ := fun j => (hbf j).c2
                  have c3 : ∀ j, (f j).cell? ⟨w.heap.size, 3, none⟩ = _ := fun j => (hbf j).c3
                  have c4 : ∀ j, (f j).cell? ⟨w.heap.size, 4, none⟩ = _ := fun j => (hbf j).c4
                  have HQ : Hid (∀ j, Calls Ybad.prog 24 #[clv sb so s.size cs lo up hr gp gn gc, .float .f64 wi] (f j) fun e w' => e = .returned (.int .i64 (topI s.size H (wid hr wi) up g : Nat)) ∧ ∃ j, w' = f j) := fun j =>
                    (top_f (cs := cs) (lo := lo) (gc := gc) HT.out.1.fl (hbf j).m (hbf j).le (by have := HT.out.1.n1; omega) HT.out.1.n0 HT.out.2.1 (by have := HT.out.1.gl; omega) HT.out.1.gk (HT.out.1.cmp wi HWI.out.1 HWI.out.2) hd1 hd2 HT.out.1.up).mono fun e w' h => ⟨h.1, hfs _ ((hf j).trans (h.2.mono (hf j).size))⟩
                  have htl : topI s.size H (wid hr wi) up g < s.size := topI_lt (up := up) (H := H) (wd := wid hr wi) HT.out.1.n0 HT.out.1.gk
                  have sc : ∀ j, (f j).cell? ⟨sb, so + topI s.size H (wid hr wi) up g, none⟩ = some (.float .f64 s[topI s.size H (wid hr wi) up g]!) := fun j => (hbf j).m.sc _ htl
                  have h0 : ∃ j, { W8 with drawn := W8.drawn + 1 } = f j := hfs _ below_drawn
                  have HF := (show Hid (∀ j, Below W8.heap.size W8 (f j)) from hf)
                  have _ : Nonempty ι := ⟨h0.choose⟩
                  have r1 := run_div (HT.out.1.fl.div _ htl)
                  have r2 := run_div hv2
                  obtain ⟨a5, q3, q4, q5⟩ := (hvt _ htl).1
                  have r3 := run_sub q3
                  have r4 := run_div q4
                  have HB5 := (show Hid _ from q5)
                  clear hbf hfs hf q3 q4 q5
                  generalize byU v h2 hr (topI s.size H (wid hr wi) up g) = bb at *
                  generalize topI s.size H (wid hr wi) up g = tt at *
                  generalize s[tt]! = xx at *
                  generalize h2 tt = hh at *
                  have t1 : (tt : Int) < (s.size : Int) := by omega
                  have t2 : (0 : Int) ≤ (tt : Int) := by omega
                  refine wp_region_class f (by kernel_rfl) (by kernel_rfl) h0 ?_
                  clear h0
                  repeat (go_big_quiet_step (exact HQ.out _))
                  refine wpQuiet_nil ?_
                  rintro _ ⟨j, rfl⟩
                  have hb9 : Below W8.heap.size W8 (f j) := HF.out j
                  clear c0 c1 c2 c3 c4 HQ HF sc r1 r2 r3 r4
                  generalize f j = W9 at *

                  have hBB : BB v bv bb := .inl ⟨by rw [HBE.out, hab]; rfl, HB5.out⟩
                  have hb7 := hb8.trans (hb9.mono hb8.size)
                  go_upto_region 26 with fail
                  clear hab hb9
                  generalize W9 = W7 at *
                  have HR : Hid (Below W6.heap.size W6 W7) := hbr.trans (hb7.mono hbr.size)
                  have hgb := hBB.gt (x := x)
                  cases hg : (D.order bb x == some .gt) with
                  | false =>
                    have hg2 : (FloatKind.f64.format.order bb x == some Ordering.gt) = false := hg
                    rw [hg] at hgb
                    have HS : Hid (stepD bv x un dep = dep) := by show _ = _; unfold stepD; rw [← hgb]; rfl
                    clear hBB hgb hg hbx hb7
                    go_wp2_with fail
                    go_roundw
                    case rel =>
                      go_light
                      exact ⟨i + 1, dep, rfl, by go_num, by omega, hdI, HR.out, by rw [HD.out, HS.out]⟩
                    case measure => simp [intOf]; omega
                  | true =>
                    have hg2 : (FloatKind.f64.format.order bb x == some Ordering.gt) = true := hg
                    obtain ⟨hbe, hb64⟩ := hBB.eq hg
                    obtain ⟨hbI, _⟩ := gt_pos hb64 (show 0 < x from Nat.lt_of_lt_of_le (by decide) hx1) hx2 hg
                    rw [hg] at hgb
                    have HS : Hid (stepD bv x un dep = max dep (min bb un)) := by show _ = _; unfold stepD; rw [← hgb, hbe]; rfl
                    have em := run_minF hbI HU.out #[23, 23] 23
                    have eM := run_maxF hdI (Nat.le_trans (Nat.min_le_left bb un) hbI) #[23, 23] 23
                    have HI2 : Hid (max dep (min bb un) ≤ 9218868437227405312) := Nat.max_le.2 ⟨hdI, Nat.le_trans (Nat.min_le_left bb un) hbI⟩
                    clear hBB hgb hg hbx hb7 hbe
                    generalize min bb un = mn at *
                    generalize max dep mn = mx at *
                    go_wp2_with fail
                    go_roundw
                    case rel =>
                      go_light
                      exact ⟨i + 1, mx, rfl, by go_num, by omega, HI2.out, HR.out, by rw [HD.out, HS.out]⟩
                    case measure => simp [intOf]; omega
          · have i1 : ¬ (i : Int) < (C.length : Int) := by omega
            have HE : Hid (C.drop i = []) := (show C.drop i = [] from List.drop_of_length_le (by omega))
            have HD := (show Hid _ from And.intro hdep hbr)
            clear hdep hbr
            go_wp2_with fail
            go_ret
            exact ⟨⟨C, HC.out.1, by rw [HRR.out, if_neg (by decide), HD.out.1, HE.out]; rfl⟩, HX.out.2.trans (HD.out.2.mono HX.out.2.size)⟩
end Go.Proofs.YbulkdswcDoor
