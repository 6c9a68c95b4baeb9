import Derived.Test.YbulkdswcDoorX3
namespace Go.Proofs.YbulkdswcDoor
open Go Ieee Go.RowKit Go.Sort Go.Shelf Go.Lib

attribute [local go_sem] run_store_float

theorem inL_le {n : Nat} {xs : List Int} : (inL n xs).length ≤ xs.length + 1 := by
  unfold inL
  rw [List.length_append, List.length_map]
  split
  · simp; omega
  · simp

set_option maxHeartbeats 16000000 in
set_option maxRecDepth 100000 in
theorem law_a {p : Option Addr} {n c v : Nat} (xs : List Int) (w : World) (hl : xs.length = n) (hcell : ∀ (i : Nat) (x : Int), xs[i]? = some x → ∃ b off, p = some ⟨b, off, none⟩ ∧ b < w.heap.size ∧ w.cell? ⟨b, off + i, none⟩ = some (.int .i32 x))
    (hx : ∀ x ∈ xs, x.natAbs ≤ 2 ^ 32) (hw0 : 0 < w.heap.size) (hg0 : w.cell? ⟨0, 0, none⟩ = some (.float .f64 FST)) :
    Calls Ybad.prog 3 #[.slice p n c, .float .f64 v] w fun e w' => e = .returned (.bool true) ∧ Below w.heap.size w w' := by
  by_cases hbig : 8192 < n
  · have b1 : (8192 : Int) < (n : Int) := by omega
    clear hcell hx hg0 hl
    go_enter Ybad.func3, Ybad.ntmps3
    go_wp2_with fail
    go_ret
    exact ⟨rfl, Below.refl _ _⟩
  · have b1 : ¬ (8192 : Int) < (n : Int) := by omega
    have b2 : (n : Int) ≤ 8192 := by omega
    have b0 : (0 : Int) ≤ (n : Int) := by omega
    have hn : n ≤ 8192 := by omega
    obtain ⟨W1, hmk, hK1⟩ := KF.make w (n := n) (by omega)
    have HX := (show Hid _ from And.intro hl (And.intro hcell hx))
    have HG0 := (show Hid _ from And.intro hg0 hw0)
    have HK1 := (show Hid _ from hK1)
    clear hl hcell hx hg0 hw0 hK1 hbig
    go_enter Ybad.func3, Ybad.ntmps3
    go_upto_if 27 with fail
    clear hmk b1
    go_cut [5] from 27 to 30 (fun v5 wx => ∃ (q : Option Addr) (m c2 : Nat), v5 = .slice q m c2 ∧ KF w (if n = 0 then [0] else []) q m c2 wx)
    case first =>
      by_cases h0 : n = 0
      · have e0 : ((n : Int) == 0) = true := by rw [h0]; rfl
        rw [e0]
        clear e0
        obtain ⟨g, c2, w2, ha, hK2⟩ := HK1.out.push (by omega) 0
        have HA := (show Hid _ from ha)
        have HK2 : Hid (KF w (if n = 0 then [0] else []) (some ⟨g, 0, none⟩) 1 c2 w2) := by
          show KF _ _ _ _ _ _
          rw [if_pos h0]
          exact hK2
        clear ha hK2 h0
        go_wp2_with (at_builtin; refine wpList_append_run rfl (.tmp 28) (.tmp 29) 24 rfl _ _ _ _ rfl rfl HA.out ?_)
        go_meet
        case rel => exact ⟨_, _, _, rfl, HK2.out⟩
      · have e0 : ((n : Int) == 0) = false := by simp; omega
        rw [e0]
        clear e0
        have HK2 : Hid (KF w (if n = 0 then [0] else []) (some ⟨w.heap.size, 0, none⟩) 0 (n + 1) W1) := by
          show KF _ _ _ _ _ _
          rw [if_neg h0]
          exact HK1.out
        clear h0
        go_wp2_with fail
        go_meet
        case rel => exact ⟨_, _, _, rfl, HK2.out⟩
    case rest =>
      obtain ⟨q, m, c2, rfl, hK⟩ := hcut
      have HK := (show Hid _ from hK)
      clear hK HK1 W1
      go_wp2_with fail
      go_loopw [5, 33] (fun v5 v33 wr => ∃ (i : Nat) (q : Option Addr) (m c2 : Nat), v5 = .slice q m c2 ∧ v33 = .int .i64 i ∧ i ≤ n ∧ KF w (inL n (xs.take i)) q m c2 wr) (fun _ v33 _ => n - (intOf v33).toNat)
      case atStart => exact ⟨0, _, _, _, rfl, rfl, Nat.zero_le _, by unfold inL; rw [List.take_zero, List.map_nil, List.append_nil]; exact HK.out⟩
      case round =>
        clear HK
        obtain ⟨i, q, m, c2, rfl, rfl, hi, hK⟩ := hrel
        have i0 : (0 : Int) ≤ (i : Int) := by omega
        by_cases hin : i < n
        · have i1 : (i : Int) < (n : Int) := by omega
          obtain ⟨x, hx⟩ : ∃ x, xs[i]? = some x := ⟨_, List.getElem?_eq_getElem (by have := HX.out.1; omega)⟩
          obtain ⟨b, off, rfl, hb, cx0⟩ := HX.out.2.1 i x hx
          have cx := (hK.below.cell (p := ⟨b, off + i, none⟩) hb).trans cx0
          have hm : m ≤ 9000 := by have h1 := hK.len; have h2 := inL_le (n := n) (xs := xs.take i); have h3 := List.length_take_le i xs; omega
          obtain ⟨g, c3, w2, ha, hK2⟩ := hK.push hm (toF x)
          have HA := (show Hid _ from ha)
          have HK2 : Hid (KF w (inL n (xs.take (i + 1))) (some ⟨g, 0, none⟩) (m + 1) c3 w2) := by
            show KF _ _ _ _ _ _
            obtain ⟨hlt, e⟩ := List.getElem?_eq_some_iff.1 hx
            have e2 : inL n (xs.take (i + 1)) = inL n (xs.take i) ++ [toF x] := by
              unfold inL
              rw [List.take_succ_eq_append_getElem hlt, e, List.map_append, List.append_assoc]; rfl
            rw [e2]
            exact hK2
          clear ha hK2 hx cx0 hK
          unfold toF at HA
          go_wp2_with (at_builtin; refine wpList_append_run rfl (.tmp 37) (.tmp 40) 24 rfl _ _ _ _ rfl rfl HA.out ?_)
          go_roundw
          case rel =>
            go_light
            exact ⟨i + 1, _, _, _, rfl, by go_num, by omega, HK2.out⟩
          case measure => simp [intOf]; omega
        · have i1 : ¬ (i : Int) < (n : Int) := by omega
          have hK : KF w (inL n xs) q m c2 wr := by
            have : xs.take i = xs := List.take_of_length_le (by have := HX.out.1; omega)
            rw [this] at hK; exact hK
          have hll := inL_len HX.out.1
          have hlen := hK.len
          obtain ⟨blk, rfl, hbl, hbl2, hcap, hH⟩ := hK.holds (by omega)
          have cS := sort_f blk 0 c2 (inL n xs).toArray wr hH hbl2 (by simp; omega)
          rw [show (inL n xs).toArray.size = m by simpa using hlen] at cS
          have HKW : Hid (Below w.heap.size w wr) := hK.below
          clear hK hH
          go_wp2_with fail
          refine cS.mono ?_
          rintro e W5 ⟨rfl, s, hperm, hsort, hview⟩
          obtain ⟨hsz, F⟩ := sorted_of HX.out.2.2 hlen hperm
          subst hsz
          have HB5 : Hid (Below w.heap.size w W5) := HKW.out.trans ⟨hview.os, hview.tape, hview.output, hview.grew, fun k hk => hview.other k (by omega) (by omega)⟩
          have n1 : s.size ≤ 8193 := by omega
          have n0 : 0 < s.size := by omega
          have hcs : ∀ k, k < s.size → W5.cell? ⟨blk, 0 + k, none⟩ = some (.float .f64 s[k]!) := fun k hk => (hview.holds k hk).1
          have hbl5 : blk < W5.heap.size := hview.blk
          obtain ⟨hv1, hv2, hv3⟩ := hrv_ok F n0 hsort
          have HF := (show Hid _ from And.intro F (And.intro hv2 hv3))
          have HCS := (show Hid _ from hcs)
          have cz := hcs 0 n0
          have cl := hcs (s.size - 1) (by omega)
          rw [Nat.zero_add] at cz cl
          have d1 := run_div (hlv_eq F (k := s.size - 1) (by omega)).1
          have d2 := run_div (hlv_eq F n0).1
          have d3 := run_sub hv1
          have HHV : Hid (hrv s = if (D.order ((D.sub (hlv s (s.size - 1)) (hlv s 0)).getD 0) 0 == some .eq) = true then 4503599627370496 else (D.sub (hlv s (s.size - 1)) (hlv s 0)).getD 0) := rfl
          clear hperm hsort hview cS hcs hv1 hv2 hv3 F HX hlen hll
          generalize (D.sub (hlv s (s.size - 1)) (hlv s 0)).getD 0 = hh at *
          generalize hlv s (s.size - 1) = y1 at *
          generalize hlv s 0 = y0 at *
          generalize hrv s = hr at *
          generalize s[s.size - 1]! = x1 at *
          generalize s[0]! = x0 at *
          have s0 : (1 : Int) ≤ (s.size : Int) := by omega
          have s1 : (s.size : Int) ≤ 8193 := by omega
          have htn : ((s.size : Int) - 1).toNat = s.size - 1 := by omega
          go_wp2_with fail
          go_quiet (fail)
          go_upto_if 59 with fail
          have hb6 : Below W5.heap.size W5 (W5.drewN nq) := below_draw (Below.refl _ _) nq
          clear d1 d2 d3 cz cl
          generalize W5.drewN nq = W6 at *
          go_cut [9] from 59 to 59 (fun v9 wx => v9 = .float .f64 hr ∧ wx = W6)
          case first =>
            cases hq : (FloatKind.f64.format.order hh 0 == some Ordering.eq) with
            | true =>
              go_wp2_with fail
              go_meet
              case rel => exact ⟨by rw [HHV.out, show (D.order hh 0 == some .eq) = true from hq]; rfl, rfl⟩
            | false =>
              go_wp2_with fail
              go_meet
              case rel => exact ⟨by rw [HHV.out, show (D.order hh 0 == some .eq) = false from hq]; rfl, rfl⟩
          case rest =>
            obtain ⟨rfl, hwc⟩ := hcut
            rw [hwc]
            clear hwc HHV hK
            have HT := (show Hid _ from dt_of HF.out.1 n0 n1 HF.out.2.1 HF.out.2.2)
            have HV : Hid (Vt s.size (hlv s) hr v) := vt_of HF.out.1 HF.out.2.1 HF.out.2.2 v
            obtain ⟨a1, hd1, hd2⟩ := HT.out.wide FST (Nat.le_refl _) (by decide)
            have cW := wide_f hd1 hd2 W6
            have HK0 : Hid (Ks W6 [] (some ⟨W6.heap.size, 0, none⟩) 0 0 (W6.alloc (.cells #[] 3))) := Ks.nil W6 W6 (Below.refl _ _)
            clear hd1 hd2
            go_wp2_with fail
            refine cW.mono ?_
            rintro e W7 ⟨rfl, hW7⟩
            rw [hW7]
            clear hW7 W7 cW
            go_wp2_with fail
            generalize W6.alloc (.cells #[] 3) = W7 at *
            go_loopw [11, 12] (fun v11 v12 wr => ∃ (k gb n c : Nat), v11 = .slice (some ⟨gb, 0, none⟩) n c ∧ v12 = .int .i64 k ∧ k ≤ s.size - 1 ∧ Ks W6 (stepsUp (stp s) (wid hr FST) 0 (List.range k)) (some ⟨gb, 0, none⟩) n c wr) (fun _ v12 _ => s.size - (intOf v12).toNat)
            case atStart => exact ⟨0, _, _, _, rfl, rfl, Nat.zero_le _, HK0.out⟩
            case round =>
              clear HK0 W7
              obtain ⟨k, gb, gn, gc, rfl, rfl, hk, hK⟩ := hrel
              have HK := (show Hid _ from hK)
              have k0 : (0 : Int) ≤ (k : Int) := by omega
              have hw1 : IntKind.i64.wrap ((k : Int) + 1) = (k : Int) + 1 := wrapI (by omega) (by omega)
              by_cases hkn : k + 1 < s.size
              · have k1 : (k : Int) + 1 < (s.size : Int) := by omega
                have cH := half_f (w := wr) (sb := blk) (so := 0) (cs := c2) (k := k) HT.out.fl (fun k hk => ((hb6.trans (hK.below.mono hb6.size)).cell (p := ⟨blk, 0 + k, none⟩) hbl5).trans (HCS.out k hk)) hkn (by omega)
                have hlen : gn ≤ 9000 := by have h1 := hK.len; have := stepsUp_len (H := stp s) (wd := wid hr FST) (up := 0) (k := k); omega
                have HR := (show Hid _ from stepsUp_range (H := stp s) (wd := wid hr FST) (up := 0) (k := k) (Nat.zero_le _))
                have HL : Hid (longer (stp s) (wid hr FST) k = (D.order (stp s k) (wid hr FST) == some .gt)) := rfl
                clear hK
                generalize stp s k = r at *
                go_wp2_with fail
                refine cH.mono ?_
                rintro e W8 ⟨rfl, q, hq⟩
                have HK1 : Hid (Ks W6 (stepsUp (stp s) (wid hr FST) 0 (List.range k)) (some ⟨gb, 0, none⟩) gn gc W8) := by rw [hq]; exact HK.out.draw q
                clear cH hq HK
                go_upto_if 73 with fail
                cases hl : (D.order r (wid hr FST) == some .gt)
                · rw [show (FloatKind.f64.format.order r (wid hr FST) == some Ordering.gt) = false from hl]
                  rw [HL.out, hl] at HR
                  clear HL hl
                  go_wp2
                  go_roundw
                  case rel =>
                    go_light
                    exact ⟨k + 1, gb, gn, gc, rfl, by go_num, by omega, by rw [HR.out]; exact HK1.out⟩
                  case measure => simp [intOf]; omega
                · rw [show (FloatKind.f64.format.order r (wid hr FST) == some Ordering.gt) = true from hl]
                  rw [HL.out, hl] at HR
                  clear HL hl
                  obtain ⟨g, c3, w2, ha, hK2⟩ := HK1.out.push hlen k
                  have HA := (show Hid _ from ha)
                  have HK2 := (show Hid _ from hK2)
                  clear ha hK2
                  go_wp2_with (at_builtin; refine wpList_append_run rfl (.tmp 74) (.tmp 76) 27 rfl _ _ _ _ rfl rfl HA.out ?_)
                  go_roundw
                  case rel =>
                    go_light
                    exact ⟨k + 1, g, _, _, rfl, by go_num, by omega, by rw [HR.out]; exact HK2.out⟩
                  case measure => simp [intOf]; omega
              · have k1 : ¬ (k : Int) + 1 < (s.size : Int) := by omega
                obtain rfl : k = s.size - 1 := by omega
                rw [gps_steps] at hK
                have HU : Hid (∀ d, FST ≤ d → d ≤ 9218868437227405312 → topL s.size (stepsUp (stp s) (wid hr d) (s.size / 2) (List.range (s.size - 1))) = topI s.size (stp s) (wid hr d) (s.size / 2) (gps s hr)) := fun d h1 h2 => by
                  show _ = topL _ _
                  rw [up_all HF.out.1 HF.out.2.1 HF.out.2.2 h1 h2]
                have HD : Hid (∀ d, FST ≤ d → d ≤ 9218868437227405312 → botL s.size (colD (stp s) (wid hr d) ((s.size - 1) / 2) 0) = botI s.size (stp s) (wid hr d) ((s.size - 1) / 2) (gps s hr)) := fun d h1 h2 => by
                  show _ = botL _ _
                  rw [down_all HF.out.1 HF.out.2.1 HF.out.2.2 h1 h2 (by omega)]
                have hlen := hK.len
                have HB7 : Hid (Below W5.heap.size W5 wr) := hb6.trans (hK.below.mono hb6.size)
                have HCM : Hid (CM wr wr.heap.size blk 0 s (some ⟨gb, 0, none⟩) (gps s hr)) := ⟨Nat.lt_of_lt_of_le hbl5 HB7.out.size, fun k hk => (HB7.out.cell (p := ⟨blk, 0 + k, none⟩) hbl5).trans (HCS.out k hk), fun i k hi => by
                  obtain ⟨g', e', hc⟩ := hK.at_ hi
                  cases e'
                  exact ⟨gb, 0, rfl, block_lt_of_cell hc, by rw [Nat.zero_add]; exact hc⟩⟩
                have HFF : Hid (Fin32 s) := HF.out.1
                clear hK HK hb6 HF HCS
                generalize gps s hr = g at *
                generalize hlv s = h2 at *
                generalize stp s = H at *
                subst hlen
                obtain ⟨lo, hlo⟩ : ∃ lo, (s.size - 1) / 2 = lo := ⟨_, rfl⟩
                obtain ⟨up, hup⟩ : ∃ up, s.size / 2 = up := ⟨_, rfl⟩
                rw [hlo] at HT HD
                rw [hup] at HT HU
                have q1 : ((s.size : Int) - 1).tdiv 2 = (lo : Int) := by rw [Int.tdiv_eq_ediv_of_nonneg (by omega)]; omega
                have q2 : (s.size : Int).tdiv 2 = (up : Int) := by rw [Int.tdiv_eq_ediv_of_nonneg (by omega)]; omega
                have u0 : (0 : Int) ≤ (up : Int) := by omega
                have u1 : (up : Int) ≤ 8193 := by omega
                have l0 : (0 : Int) ≤ (lo : Int) := by omega
                have l1 : (lo : Int) ≤ 8193 := by omega
                have HLU := (show Hid _ from And.intro hlo hup)
                clear hlo hup
                have g1 : g.length ≤ 8200 := HT.out.gl
                have g2 : (g.length : Int) ≤ 8200 := by omega
                generalize wr = W7 at *
                go_upto_region 24 with fail
                clear q1 q2 k1 u0 u1 l0 l1 htn hw1
                have hb8 : Below W7.heap.size W7 (W7.alloc (.cells #[.slice (some ⟨blk, 0, none⟩) s.size c2, .int .i64 lo, .int .i64 up, .float .f64 hr, .slice (some ⟨gb, 0, none⟩) g.length gc] 30)) := (Below.refl _ _).alloc (Nat.le_refl _) _
                have hn8 : (W7.alloc (.cells #[.slice (some ⟨blk, 0, none⟩) s.size c2, .int .i64 lo, .int .i64 up, .float .f64 hr, .slice (some ⟨gb, 0, none⟩) g.length gc] 30)).heap[W7.heap.size]? = some (.cells #[.slice (some ⟨blk, 0, none⟩) s.size c2, .int .i64 lo, .int .i64 up, .float .f64 hr, .slice (some ⟨gb, 0, none⟩) g.length gc] 30) := by unfold World.alloc; simp
                generalize W7.alloc (.cells #[.slice (some ⟨blk, 0, none⟩) s.size c2, .int .i64 lo, .int .i64 up, .float .f64 hr, .slice (some ⟨gb, 0, none⟩) g.length gc] 30) = W8 at *
                have hs8 : W7.heap.size < W8.heap.size := (Array.getElem?_eq_some_iff.1 hn8).1
                have hM8 : CM W8 W8.heap.size blk 0 s (some ⟨gb, 0, none⟩) g := HCM.out.kept hb8 hb8.size
                have HB8 : Hid (Below w.heap.size w W8) := by
                  have a1 := HB5.out.trans (HB7.out.mono HB5.out.size)
                  exact a1.trans (hb8.mono a1.size)
                have HN8 := (show Hid _ from hn8)
                have HM8 := (show Hid _ from hM8)
                have cS := clone_s (w := W8) (b := blk) (cs := c2) hM8.sc (by omega)
                clear hn8 hM8 hb8
                go_wp2_with fail
                refine cS.mono ?_
                rintro e W9 ⟨sb2, sc2, rfl, hsa, hsb, hsc, hb9⟩
                clear cS
                have hM9 := HM8.out.kept hb9 hb9.size
                have HM9 := (show Hid _ from And.intro hM9 (And.intro hsb (And.intro hsc hb9)))
                have cG := clone_g (w := W9) (b := gb) (cg := gc) (g := g) (fun i k hi => by
                  obtain ⟨b, off, e, _, hc⟩ := hM9.gc i k hi
                  cases e
                  exact hc) (by omega)
                clear hM9 hsa hsb hsc hb9
                go_wp2_with fail
                refine cG.mono ?_
                rintro e W10 ⟨gb2, gc2, rfl, hga, hgb, hgc, hb10⟩
                clear cG
                have HM10 : Hid (CM W10 W10.heap.size blk 0 s (some ⟨gb, 0, none⟩) g) := HM9.out.1.kept hb10 hb10.size
                have HM10b : Hid (CM W10 W10.heap.size sb2 0 s (some ⟨gb2, 0, none⟩) g) := ⟨Nat.lt_of_lt_of_le HM9.out.2.1 hb10.size, fun k hk => (hb10.cell (p := ⟨sb2, 0 + k, none⟩) HM9.out.2.1).trans (HM9.out.2.2.1 k hk), fun i k hi => ⟨gb2, 0, rfl, hgb, hgc i k hi⟩⟩
                have hb810 : Below W8.heap.size W8 W10 := HM9.out.2.2.2.trans (hb10.mono HM9.out.2.2.2.size)
                have HB10 : Hid (Below w.heap.size w W10) := HB8.out.trans (hb810.mono HB8.out.size)
                have hbk : W10.heap[W7.heap.size]? = some (.cells #[.slice (some ⟨blk, 0, none⟩) s.size c2, .int .i64 lo, .int .i64 up, .float .f64 hr, .slice (some ⟨gb, 0, none⟩) g.length gc] 30) := (hb810.block _ hs8).trans HN8.out
                have c0 : W10.cell? ⟨W7.heap.size, 0, none⟩ = some (.slice (some ⟨blk, 0, none⟩) s.size c2) := by simp [World.cell?, hbk]
                have c1 : W10.cell? ⟨W7.heap.size, 1, none⟩ = some (.int .i64 lo) := by simp [World.cell?, hbk]
                have c3 : W10.cell? ⟨W7.heap.size, 2, none⟩ = some (.int .i64 up) := by simp [World.cell?, hbk]
                have c4 : W10.cell? ⟨W7.heap.size, 3, none⟩ = some (.float .f64 hr) := by simp [World.cell?, hbk]
                have c5 : W10.cell? ⟨W7.heap.size, 4, none⟩ = some (.slice (some ⟨gb, 0, none⟩) g.length gc) := by simp [World.cell?, hbk]
                have cD := departure_f (cs := c2) (gc := gc) (v := v) HT.out HM10.out (Nat.le_refl _) (Nat.lt_of_lt_of_le HG0.out.2 HB10.out.size) rfl ((HB10.out.cell (p := ⟨0, 0, none⟩) HG0.out.2).trans HG0.out.1) HV.out
                clear hbk hb810 hga hgb hgc hb10
                go_wp2_with fail
                refine cD.mono ?_
                rintro e W11 ⟨⟨C1, hA1, rfl⟩, hb11⟩
                clear cD c0 c1 c3 c4 c5
                have HM11 : Hid (CM W11 W11.heap.size blk 0 s (some ⟨gb, 0, none⟩) g) := HM10.out.kept hb11 hb11.size
                have HM11b : Hid (CM W11 W11.heap.size sb2 0 s (some ⟨gb2, 0, none⟩) g) := HM10b.out.kept hb11 hb11.size
                have HB11 : Hid (Below w.heap.size w W11) := HB10.out.trans (hb11.mono HB10.out.size)
                have HA1 := (show Hid _ from hA1)
                have hr1 : depR s h2 H hr lo up g v C1 ≤ 9218868437227405312 := depR_le fun x hx => (chg_ok HT.out x ((hA1.2 x).1 hx)).2
                obtain ⟨r1, hR1⟩ : ∃ r1, r1 = depR s h2 H hr lo up g v C1 := ⟨_, rfl⟩
                rw [← hR1] at hr1 ⊢
                have HR1 := (show Hid _ from hR1)
                have cE := equal_s (w := W11) (c1 := c2) (c2 := sc2) HFF.out (by omega) HM11.out.sc HM11b.out.sc
                clear hA1 hb11 hR1
                go_wp2_with fail
                refine cE.mono ?_
                rintro e W12 ⟨rfl, q12, hq12⟩
                have hb12 : Below W11.heap.size W11 W12 := by rw [hq12]; exact below_draw (Below.refl _ _) q12
                have HM12 : Hid (CM W12 W12.heap.size blk 0 s (some ⟨gb, 0, none⟩) g) := HM11.out.kept hb12 hb12.size
                have HM12b : Hid (CM W12 W12.heap.size sb2 0 s (some ⟨gb2, 0, none⟩) g) := HM11b.out.kept hb12 hb12.size
                have HB12 : Hid (Below w.heap.size w W12) := HB11.out.trans (hb12.mono HB11.out.size)
                have cE2 := equal_g (w := W12) (b1 := gb) (b2 := gb2) (c1 := gc) (c2 := gc2) (g := g) (by omega) (fun i k hi => by
                  obtain ⟨b, off, e, _, hc⟩ := HM12.out.gc i k hi
                  cases e
                  exact hc) (fun i k hi => by
                  obtain ⟨b, off, e, _, hc⟩ := HM12b.out.gc i k hi
                  cases e
                  exact hc)
                clear cE hq12 hb12
                go_wp2_with fail
                refine cE2.mono ?_
                rintro e W13 ⟨rfl, q13, hq13⟩
                have hb13 : Below W12.heap.size W12 W13 := by rw [hq13]; exact below_draw (Below.refl _ _) q13
                have HM13b : Hid (CM W13 W13.heap.size sb2 0 s (some ⟨gb2, 0, none⟩) g) := HM12b.out.kept hb13 hb13.size
                have HB13 : Hid (Below w.heap.size w W13) := HB12.out.trans (hb13.mono HB12.out.size)
                have cM := model_f (cs := sc2) (gc := gc2) (v := v) HT.out HM13b.out (Nat.le_refl _) rfl HLU.out.1.symm HLU.out.2.symm HU.out HD.out HV.out
                clear cE2 hq13 hb13
                go_wp2_with fail
                refine cM.mono ?_
                rintro e W14 ⟨⟨C2, hA2, rfl⟩, hb14⟩
                have eC : C2 = C1 := asc_unique hA2.1 HA1.out.1 fun x => (hA2.2 x).trans (HA1.out.2 x).symm
                rw [eC, ← HR1.out]
                have hfin : (FloatKind.f64.format.order r1 r1 == some Ordering.eq) = true := (pos_eq hr1 hr1).trans (decide_eq_true rfl)
                have HB14 : Hid (Below w.heap.size w W14) := HB13.out.trans (hb14.mono HB13.out.size)
                clear cM eC hA2 hb14
                go_wp2_with fail
                go_ret
                exact ⟨rfl, HB14.out⟩
end Go.Proofs.YbulkdswcDoor
