import Derived.Test.YbulkdswcDoorU6
import Derived.Test.YbulkdswcDoorW2
namespace Go.Proofs.YbulkdswcDoor
open Go Ieee Go.RowKit Go.Sort Go.Shelf Go.Lib

set_option maxHeartbeats 16000000 in
set_option maxRecDepth 100000 in
theorem model_f {s : Array Nat} {h2 H : Nat → Nat} {hr lo up : Nat} {g : List Nat} (T : Dt s h2 H hr lo up g) {w : World} {B0 sb so cs gn gc v : Nat} {gp : Option Addr} (hM : CM w B0 sb so s gp g) (hB : B0 ≤ w.heap.size) (hgn : gn = g.length)
    (hlo : lo = (s.size - 1) / 2) (hup : up = s.size / 2)
    (hU : ∀ d, FST ≤ d → d ≤ 9218868437227405312 → topL s.size (stepsUp H (wid hr d) up (List.range (s.size - 1))) = topI s.size H (wid hr d) up g)
    (hD : ∀ d, FST ≤ d → d ≤ 9218868437227405312 → botL s.size (colD H (wid hr d) lo 0) = botI s.size H (wid hr d) lo g) (hV : Vt s.size h2 hr v) :
    Calls Ybad.prog 13 #[.slice (some ⟨sb, so, none⟩) s.size cs, .float .f64 hr, .slice gp gn gc, .float .f64 v] w fun e w' => (∃ C, Asc (chg H hr g) C ∧ e = .returned (.float .f64 (depR s h2 H hr lo up g v C))) ∧ Below w.heap.size w w' := by
  have HT := (show Hid _ from And.intro T (And.intro hgn hV))
  have HAB := (show Hid _ from And.intro (abv_eq T) (blw_eq T))
  have HRR : Hid (∀ C, depR s h2 H hr lo up g v C = if inside v (abv s H hr up g) (blw s H hr lo g) = true then 0 else depL (bey s.size h2 H hr lo up g v (abv s H hr up g)) C 0) := fun C => rfl
  have HI : Hid (inside v (abv s H hr up g) (blw s H hr lo g) = ((D.order v (abv s H hr up g) == some .lt || D.order v (abv s H hr up g) == some .eq) && (D.order v (blw s H hr lo g) == some .gt || D.order v (blw s H hr lo g) == some .eq))) := rfl
  generalize abv s H hr up g = ab at *
  generalize blw s H hr lo g = be at *
  generalize depR s h2 H hr lo up g v = R at *
  have hsb : sb < w.heap.size := Nat.lt_of_lt_of_le hM.lt hB
  have HM : Hid (∀ W, Below w.heap.size w W → ∀ k, k < s.size → W.cell? ⟨sb, so + k, none⟩ = some (.float .f64 s[k]!)) := fun W hW k hk => (hW.cell (p := ⟨sb, so + k, none⟩) hsb).trans (hM.sc k hk)
  have HG : Hid (∀ W, Below w.heap.size w W → ∀ (i k : Nat), g[i]? = some k → ∃ b off, gp = some ⟨b, off, none⟩ ∧ W.cell? ⟨b, off + i, none⟩ = some (.int .i64 k)) := fun W hW i k hi => by
    obtain ⟨b, off, e, h1, h3⟩ := hM.gc i k hi
    exact ⟨b, off, e, (hW.cell (p := ⟨b, off + i, none⟩) (by show b < _; omega)).trans h3⟩
  have nn0 := T.n0
  have nn1 := T.n1
  have HTOP : Hid (∀ W d, Below w.heap.size w W → FST ≤ d → d ≤ 9218868437227405312 → Calls Ybad.prog 25 #[.slice (some ⟨sb, so, none⟩) s.size cs, .float .f64 hr, .int .i64 up, .float .f64 d] W fun e w' => e = .returned (.int .i64 (topI s.size H (wid hr d) up g : Nat)) ∧ Below W.heap.size W w') := fun W d hW h1 h3 => by
    obtain ⟨a, e1, e2⟩ := T.wide d h1 h3
    rw [← hU d h1 h3]
    exact mtop_f T.fl (HM.out W hW) (Nat.lt_of_lt_of_le hsb hW.size) (by omega) T.n0 (by omega) e1 e2
  have HBOT : Hid (∀ W d, Below w.heap.size w W → FST ≤ d → d ≤ 9218868437227405312 → Calls Ybad.prog 26 #[.slice (some ⟨sb, so, none⟩) s.size cs, .float .f64 hr, .int .i64 lo, .float .f64 d] W fun e w' => e = .returned (.int .i64 (botI s.size H (wid hr d) lo g : Nat)) ∧ Below W.heap.size W w') := fun W d hW h1 h3 => by
    obtain ⟨a, e1, e2⟩ := T.wide d h1 h3
    rw [← hD d h1 h3]
    exact mbot_f T.fl (HM.out W hW) (Nat.lt_of_lt_of_le hsb hW.size) (by omega) T.n0 (by omega) e1 e2
  have g1 : (gn : Int) ≤ 8200 := by have := T.gl; omega
  have g0 : (0 : Int) ≤ (gn : Int) := by omega
  have g2 : gn ≤ 8200 := by omega
  have n1 : (s.size : Int) ≤ 8200 := by omega
  have n0 : (1 : Int) ≤ (s.size : Int) := by omega
  have q1 : ((s.size : Int) - 1).tdiv 2 = (lo : Int) := by rw [Int.tdiv_eq_ediv_of_nonneg (by omega)]; omega
  have q2 : (s.size : Int).tdiv 2 = (up : Int) := by rw [Int.tdiv_eq_ediv_of_nonneg (by omega)]; omega
  have u0 : (0 : Int) ≤ (up : Int) := by omega
  have u1 : (up : Int) ≤ 8200 := by omega
  have l0 : (0 : Int) ≤ (lo : Int) := by omega
  have l1 : (lo : Int) ≤ 8200 := by omega
  have HA0 : Hid (∃ C, Asc (chg H hr g) C) := exists_asc _
  obtain ⟨a1, hd1, hd2⟩ := T.wide FST (Nat.le_refl _) (by decide)
  have cW := wide_f hd1 hd2 w
  clear hM hgn hV T hU hD hlo hup hd1 hd2 hB
  go_enter Ybad.func13, Ybad.ntmps13
  go_wp2_with fail
  refine cW.mono ?_
  rintro e w1 ⟨rfl, hw1⟩
  rw [hw1]
  clear hw1 w1 cW
  have cT := HTOP.out w FST (Below.refl _ _) (Nat.le_refl _) (by decide)
  go_wp2_with fail
  refine cT.mono ?_
  rintro e W1 ⟨rfl, hb1⟩
  clear cT
  have htl : topI s.size H (wid hr FST) up g < s.size := topI_lt (up := up) (H := H) (wd := wid hr FST) HT.out.1.n0 HT.out.1.gk
  have ct := HM.out W1 hb1 _ htl
  have ra := run_add HAB.out.1
  have cB := HBOT.out W1 FST hb1 (Nat.le_refl _) (by decide)
  generalize topI s.size H (wid hr FST) up g = tt at *
  generalize s[tt]! = xt at *
  have t1 : (tt : Int) < (s.size : Int) := by omega
  have t2 : (0 : Int) ≤ (tt : Int) := by omega
  go_wp2_with fail
  refine cB.mono ?_
  rintro e W2 ⟨rfl, hb2⟩
  clear cB ct ra t1 t2 htl
  have HB2 : Hid (Below w.heap.size w W2) := hb1.trans (hb2.mono hb1.size)
  have hbl : botI s.size H (wid hr FST) lo g < s.size := botI_lt (lo := lo) (H := H) (wd := wid hr FST) HT.out.1.n0 HT.out.1.gk
  have cb := HM.out W2 HB2.out _ hbl
  have rs := run_sub HAB.out.2
  clear hb1 hb2 HAB
  generalize botI s.size H (wid hr FST) lo g = bt at *
  generalize s[bt]! = xb at *
  have t1 : (bt : Int) < (s.size : Int) := by omega
  have t2 : (0 : Int) ≤ (bt : Int) := by omega
  go_upto_region 8 with fail
  clear cb rs t1 t2 hbl
  go_cut [65] from 58 to 65 (fun v65 wx => v65 = .bool (inside v ab be) ∧ wx = W2)
  case first =>
    cases hb1 : (FloatKind.f64.format.order v ab == some Ordering.lt || FloatKind.f64.format.order v ab == some Ordering.eq) with
    | false =>
      go_wp2_with fail
      go_meet
      case rel => exact ⟨by rw [HI.out, show (D.order v ab == some Ordering.lt || D.order v ab == some Ordering.eq) = false from hb1]; rfl, rfl⟩
    | true =>
      go_wp2_with fail
      go_meet
      case rel => exact ⟨by rw [HI.out, show (D.order v ab == some Ordering.lt || D.order v ab == some Ordering.eq) = true from hb1]; rfl, rfl⟩
  case rest =>
    obtain ⟨rfl, hwc⟩ := hcut
    rw [hwc]
    clear hwc
    cases hin : inside v ab be with
    | true =>
      rw [hin] at HRR
      clear hin
      go_wp2_with fail
      go_ret
      exact ⟨⟨_, HA0.out.choose_spec, by rw [HRR.out]; rfl⟩, HB2.out⟩
    | false =>
      rw [hin] at HRR
      clear hin HI HA0
      have HK0 : Hid (KF W2 [FST] (some ⟨W2.heap.size, 0, none⟩) 1 1 (W2.alloc (.cells #[.float .f64 FST] 23))) := KF.one W2 W2 (Below.refl _ _) FST
      go_wp2_with fail
      generalize W2.alloc _ = W3 at *
      go_loopw [16, 70] (fun v16 v70 wr => ∃ (i : Nat) (p : Option Addr) (n c : Nat) (l : List Nat), v16 = .slice p n c ∧ v70 = .int .i64 i ∧ i ≤ gn ∧ n ≤ i + 1 ∧ 0 < n ∧ KF W2 l p n c wr ∧ Asc (chg H hr (g.take i)) l) (fun _ v70 _ => gn - (intOf v70).toNat)
      case atStart => exact ⟨0, _, _, _, [FST], rfl, rfl, Nat.zero_le _, Nat.le_refl _, by omega, HK0.out, asc_fst⟩
      case round =>
        clear HK0 W3
        obtain ⟨i, p, n, c, l, rfl, rfl, hi, hni, hn0, hK, hA⟩ := hrel
        have i0 : (0 : Int) ≤ (i : Int) := by omega
        obtain ⟨gb, rfl, hgb1, hgb2, hcap, _⟩ := hK.holds hn0
        have hbr : Below w.heap.size w wr := HB2.out.trans (hK.below.mono HB2.out.size)
        have HK := (show Hid _ from And.intro hK hA)
        by_cases hin : i < gn
        · have i1 : (i : Int) < (gn : Int) := by omega
          have m1 : (n : Int) ≤ 8201 := by omega
          have m0 : (0 : Int) ≤ (n : Int) := by omega
          obtain ⟨k, hk⟩ : ∃ k, g[i]? = some k := ⟨_, List.getElem?_eq_getElem (by have := HT.out.2.1; omega)⟩
          have hkg : k ∈ g := List.mem_of_getElem? hk
          have hkn := HT.out.1.gk k hkg
          obtain ⟨a3, hs1, hs2, hs3⟩ := HT.out.1.share k hkg
          obtain ⟨b, off, rfl, cg⟩ := HG.out wr hbr i k hk
          have HC := (show Hid _ from chg_take (H := H) (hr := hr) hk)
          have HLI : Hid (∀ y ∈ l, y ≤ 9218868437227405312) := fun y hy => (chg_ok HT.out.1 y (chg_sub ((hA.2 y).1 hy))).2
          have cH := half_f (cs := cs) HT.out.1.fl (HM.out wr hbr) hkn (by omega)
          have r1 := run_div hs1
          have r2 := run_div hs2
          clear hk hkg hs1 hs2 hK hA hbr
          generalize sh H hr k = d at *
          generalize H k = hk at *
          go_wp2_with fail
          refine cH.mono ?_
          rintro e W4 ⟨rfl, q, hq⟩
          have HK1 : Hid (KF W2 l (some ⟨gb, 0, none⟩) n c W4) := HK.out.1.next (by rw [hq]; exact below_draw (Below.refl _ _) q)
          have HAs : Hid (Asc (chg H hr (g.take i)) l) := HK.out.2
          clear cH hq HK cg
          by_cases hgt : FST < d
          · have hb : (FloatKind.f64.format.order d FST == some Ordering.gt) = true := (pos_gt hs3 (by decide)).trans (decide_eq_true hgt)
            rw [if_pos hgt] at HC
            go_wp2_with fail
            clear hb r1 r2
            go_loopw [20] (fun v20 wr => ∃ t : Nat, v20 = .int .i64 t ∧ t ≤ n ∧ (∀ j y, j < t → l[j]? = some y → y < d) ∧ wr = W4) (fun v20 _ => n - (intOf v20).toNat)
            case atStart => exact ⟨0, rfl, Nat.zero_le _, fun j y h => absurd h (Nat.not_lt_zero _), rfl⟩
            case round =>
              obtain ⟨t, rfl, htn, hlow, rfl⟩ := hrel
              have HLOW := (show Hid _ from hlow)
              clear hlow
              have t0 : (0 : Int) ≤ (t : Int) := by omega
              by_cases htn2 : t < n
              · have t1 : (t : Int) < (n : Int) := by omega
                obtain ⟨y, hy⟩ : ∃ y, l[t]? = some y := ⟨_, List.getElem?_eq_getElem (by have := HK1.out.len; omega)⟩
                obtain ⟨gb2, e2, cy⟩ := HK1.out.at_ hy
                cases e2
                have hy2 := HLI.out y (List.mem_of_getElem? hy)
                have HY := (show Hid _ from hy)
                clear hy
                by_cases hyd : y < d
                · have hb : (FloatKind.f64.format.order y d == some Ordering.lt) = true := (pos_lt hy2 hs3).trans (decide_eq_true hyd)
                  go_wp2_with fail
                  go_roundw
                  case rel =>
                    go_light
                    exact ⟨t + 1, by go_num, by omega, fun j z hj hz => by
                      rcases Nat.lt_or_ge j t with h | h
                      · exact HLOW.out j z h hz
                      · obtain rfl : j = t := by omega
                        rw [HY.out] at hz
                        cases hz
                        exact hyd, trivial⟩
                  case measure => simp [intOf]; omega
                · have hb : (FloatKind.f64.format.order y d == some Ordering.lt) = false := (pos_lt hy2 hs3).trans (decide_eq_false hyd)
                  by_cases hye : y = d
                  · have hb2 : (FloatKind.f64.format.order y d == some Ordering.eq) = true := (pos_eq hy2 hs3).trans (decide_eq_true hye)
                    have HN : Hid (Asc (chg H hr (g.take (i + 1))) l) := by
                      show Asc _ _
                      rw [HC.out]
                      exact HAs.out.skip (by rw [← hye]; exact List.mem_of_getElem? HY.out)
                    clear hye
                    go_wp2_with fail
                    go_roundw
                    case rel =>
                      go_light
                      exact ⟨i + 1, _, _, _, l, rfl, by go_num, by omega, by omega, hn0, HK1.out, HN.out⟩
                    case measure => simp [intOf]; omega
                  · have hb2 : (FloatKind.f64.format.order y d == some Ordering.eq) = false := (pos_eq hy2 hs3).trans (decide_eq_false hye)
                    have HN : Hid (Asc (chg H hr (g.take (i + 1))) (insL l t d)) := by
                      show Asc _ _
                      rw [HC.out]
                      exact HAs.out.ins (by have := HK1.out.len; omega) HLOW.out fun z hz => by rw [HY.out] at hz; cases hz; omega
                    have cI := insert_f HK1.out hn0 (by omega) (i := t) (x := d) htn
                    go_wp2_with fail
                    refine cI.mono ?_
                    rintro e W5 ⟨g5, c5, rfl, hK5⟩
                    have HK5 := (show Hid _ from hK5)
                    clear cI hK5
                    go_wp2_with fail
                    go_roundw
                    case rel =>
                      go_light
                      exact ⟨i + 1, _, _, _, _, rfl, by go_num, by omega, by omega, by omega, HK5.out, HN.out⟩
                    case measure => simp [intOf]; omega
              · have t1 : ¬ (t : Int) < (n : Int) := by omega
                have HN : Hid (Asc (chg H hr (g.take (i + 1))) (insL l t d)) := by
                  show Asc _ _
                  rw [HC.out]
                  exact HAs.out.ins (by have := HK1.out.len; omega) HLOW.out fun z hz => by
                    have := (List.getElem?_eq_some_iff.1 hz).1
                    have := HK1.out.len
                    omega
                have cI := insert_f HK1.out hn0 (by omega) (i := t) (x := d) htn
                go_wp2_with fail
                refine cI.mono ?_
                rintro e W5 ⟨g5, c5, rfl, hK5⟩
                have HK5 := (show Hid _ from hK5)
                clear cI hK5
                go_wp2_with fail
                go_roundw
                case rel =>
                  go_light
                  exact ⟨i + 1, _, _, _, _, rfl, by go_num, by omega, by omega, by omega, HK5.out, HN.out⟩
                case measure => simp [intOf]; omega
          · have hb : (FloatKind.f64.format.order d FST == some Ordering.gt) = false := (pos_gt hs3 (by decide)).trans (decide_eq_false hgt)
            rw [if_neg hgt] at HC
            go_wp2_with fail
            go_roundw
            case rel =>
              go_light
              exact ⟨i + 1, _, _, _, l, rfl, by go_num, by omega, by omega, hn0, HK1.out, by rw [HC.out]; exact HAs.out⟩
            case measure => simp [intOf]; omega
        · have i1 : ¬ (i : Int) < (gn : Int) := by omega
          have HAs : Hid (Asc (chg H hr g) l) := by
            show Asc _ _
            have : g.take i = g := List.take_of_length_le (by have := HT.out.2.1; omega)
            rw [← this]; exact HK.out.2
          have hll := hK.len
          have HC : Hid ((∀ x ∈ l, FST ≤ x ∧ x ≤ 9218868437227405312) ∧ ∀ (i x : Nat), l[i]? = some x → wr.cell? ⟨gb, i, none⟩ = some (.float .f64 x)) := ⟨fun x hx => chg_ok HT.out.1 x ((HAs.out.2 x).1 hx), fun i x hx => by
            obtain ⟨g', e', hc⟩ := hK.at_ hx
            cases e'
            exact hc⟩
          have HW : Hid (Below w.heap.size w wr) := hbr
          have z1 : (n : Int) ≤ 8201 := by omega
          have z0 : (0 : Int) ≤ (n : Int) := by omega
          clear HK hK hbr
          generalize l = C at *
          have HL := (show Hid _ from hll)
          clear hll
          generalize wr = W6 at *
          go_wp2_with fail
          clear i1
          go_loopw [21, 22] (fun v21 v22 wr => ∃ (i dep : Nat), v21 = .float .f64 dep ∧ v22 = .int .i64 i ∧ i ≤ n ∧ dep ≤ 9218868437227405312 ∧ Below W6.heap.size W6 wr ∧ depL (bey s.size h2 H hr lo up g v ab) C 0 = depL (bey s.size h2 H hr lo up g v ab) (C.drop i) dep) (fun _ v22 _ => n - (intOf v22).toNat)
          case atStart => exact ⟨0, 0, rfl, rfl, Nat.zero_le _, Nat.zero_le _, Below.refl _ _, rfl⟩
          case round =>
            obtain ⟨i, dep, rfl, rfl, hi, hdI, hbr, hdep⟩ := hrel
            have i0 : (0 : Int) ≤ (i : Int) := by omega
            by_cases hin : i < n
            · have i1 : (i : Int) < (n : Int) := by omega
              obtain ⟨x, hx⟩ : ∃ x, C[i]? = some x := ⟨_, List.getElem?_eq_getElem (by have := HL.out; omega)⟩
              obtain ⟨hx1, hx2⟩ := HC.out.1 x (List.mem_of_getElem? hx)
              have cx : wr.cell? ⟨gb, i, none⟩ = some (.float .f64 x) := (hbr.cell (p := ⟨gb, i, none⟩) hgb2).trans (HC.out.2 i x hx)
              have hw1 : IntKind.i64.wrap ((i : Int) + 1) = (i : Int) + 1 := wrapI (by omega) (by omega)
              have cI := inf_f wr
              have e1 := run_mul (within_last_eq hx2)
              have HD : Hid (depL (bey s.size h2 H hr lo up g v ab) C 0 = depL (bey s.size h2 H hr lo up g v ab) (C.drop (i + 1)) (stepD (bey s.size h2 H hr lo up g v ab x C[i + 1]?) x (C[i + 1]?.getD 9218868437227405312) dep)) := hdep.trans (depL_drop hx)
              have HWI : Hid (FST ≤ withinF x C[i + 1]? ∧ withinF x C[i + 1]? ≤ 9218868437227405312) := within_ok hx1 hx2 _ fun y hy => HC.out.1 y (List.mem_of_getElem? hy)
              have hbw : Below w.heap.size w wr := HW.out.trans (hbr.mono HW.out.size)
              have HBR := (show Hid _ from And.intro hbr hbw)
              clear hdep hx
              go_wp2_with fail
              refine cI.mono ?_
              rintro e W7 ⟨rfl, hW7⟩
              rw [hW7]
              clear cI hW7 W7
              by_cases hin2 : i + 1 < n
              · have i2 : (i : Int) + 1 < (n : Int) := by omega
                obtain ⟨y, hy⟩ : ∃ y, C[i + 1]? = some y := ⟨_, List.getElem?_eq_getElem (by have := HL.out; omega)⟩
                have hy2 := (HC.out.1 y (List.mem_of_getElem? hy)).2
                have cy : wr.cell? ⟨gb, i + 1, none⟩ = some (.float .f64 y) := (hbr.cell (p := ⟨gb, i + 1, none⟩) hgb2).trans (HC.out.2 (i + 1) y hy)
                obtain ⟨ha, hb, q1, q2, q3⟩ := within_mid_eq hx2 hy2
                have r1 := run_div q1
                have r2 := run_div q2
                have r3 := run_add q3
                rw [hy] at HD HWI
                clear q1 q2 q3 hy hbr hbw
                go_upto_region 32 with fail
                clear r1 r2 r3 cy cx e1 i2
                have HU : Hid (y ≤ 9218868437227405312) := hy2
                have HD : Hid (depL (bey s.size h2 H hr lo up g v ab) C 0 = depL (bey s.size h2 H hr lo up g v ab) (C.drop (i + 1)) (stepD (bey s.size h2 H hr lo up g v ab x (some y)) x y dep)) := HD.out
                generalize y = un at *
                have HBE : Hid (bey s.size h2 H hr lo up g v ab x (some un) = if (D.order v ab == some .gt) = true then byU v h2 hr (topI s.size H (wid hr (withinF x (some un))) up g) else byD v h2 hr (botI s.size H (wid hr (withinF x (some un))) lo g)) := rfl
                generalize bey s.size h2 H hr lo up g v ab x (some un) = bv at *
                generalize withinF x (some un) = wi at *
                rcases HT.out.2.2 with hnan | ⟨hnn, v2, hv2, hvt⟩
                · have hab : (D.order v ab == some .gt) = false := by rw [order_nan (.inl hnan)]; rfl
                  have hab2 : (FloatKind.f64.format.order v ab == some Ordering.gt) = false := hab
                  have cQ := HBOT.out wr wi HBR.out.2 HWI.out.1 HWI.out.2
                  go_wp2_with fail
                  refine cQ.mono ?_
                  rintro e W8 ⟨rfl, hb8⟩
                  clear cQ
                  have htl : botI s.size H (wid hr wi) lo g < s.size := botI_lt (lo := lo) (H := H) (wd := wid hr wi) HT.out.1.n0 HT.out.1.gk
                  have r1 := run_div (HT.out.1.fl.div _ htl)
                  have sc := HM.out W8 (HBR.out.2.trans (hb8.mono HBR.out.2.size)) _ htl
                  have hbv : nanF bv = true := by
                    rw [HBE.out, if_neg (by rw [hab]; decide)]
                    unfold byD
                    rw [div_nan hnan]
                    show nanF NANW = true
                    rw [nanF_iff]; decide
                  generalize botI s.size H (wid hr wi) lo g = tt at *
                  generalize s[tt]! = xx at *
                  generalize h2 tt = hh at *
                  have t1 : (tt : Int) < (s.size : Int) := by omega
                  have t2 : (0 : Int) ≤ (tt : Int) := by omega
                  obtain ⟨m1, k1, _, r2⟩ := run_div_nan (div_nan (y := two) hnan) W8
                  have b9 : Below wr.heap.size wr { W8 with drawn := W8.drawn + 1 } := below_drawn2 hb8
                  generalize { W8 with drawn := W8.drawn + 1 } = W9 at *
                  obtain ⟨m2, k2, _, r3⟩ := run_sub_nan (sub_nan_right (x := hh) k1) W9
                  have b10 : Below wr.heap.size wr { W9 with drawn := W9.drawn + 1 } := below_drawn2 b9
                  generalize { W9 with drawn := W9.drawn + 1 } = W10 at *
                  obtain ⟨bb, k3, _, r4⟩ := run_div_nan (div_nan (y := hr) k2) W10
                  have hb7 : Below wr.heap.size wr { W10 with drawn := W10.drawn + 1 } := below_drawn2 b10
                  generalize { W10 with drawn := W10.drawn + 1 } = W7 at *
                  have hBB : BB v bv bb := .inr ⟨k3, hbv, hnan⟩
                  clear hb8 b9 b10 k1 k2 k3 hbv htl
                  go_upto_region 36 with fail
                  clear hab hab2 r1 r2 r3 r4 sc t1 t2
                  have HR : Hid (Below W6.heap.size W6 W7) := HBR.out.1.trans (hb7.mono HBR.out.1.size)
                  have hgb := hBB.gt (x := x)
                  cases hg : (D.order bb x == some .gt) with
                  | false =>
                    have hg2 : (FloatKind.f64.format.order bb x == some Ordering.gt) = false := hg
                    rw [hg] at hgb
                    have HS : Hid (stepD bv x un dep = dep) := by show _ = _; unfold stepD; rw [← hgb]; rfl
                    clear hBB hgb hg hb7
                    go_wp2_with fail
                    go_roundw
                    case rel =>
                      go_light
                      exact ⟨i + 1, dep, rfl, by go_num, by omega, hdI, HR.out, by rw [HD.out, HS.out]⟩
                    case measure => simp [intOf]; omega
                  | true =>
                    have hg2 : (FloatKind.f64.format.order bb x == some Ordering.gt) = true := hg
                    obtain ⟨hbe, hb64⟩ := hBB.eq hg
                    obtain ⟨hbI, _⟩ := gt_pos hb64 (show 0 < x from Nat.lt_of_lt_of_le (by decide) hx1) hx2 hg
                    rw [hg] at hgb
                    have HS : Hid (stepD bv x un dep = max dep (min bb un)) := by show _ = _; unfold stepD; rw [← hgb, hbe]; rfl
                    clear hBB hgb hg hb7 hbe
                    by_cases hum : un < bb
                    · have hu2 : (FloatKind.f64.format.order un bb == some Ordering.lt) = true := (pos_lt HU.out hbI).trans (decide_eq_true hum)
                      by_cases hmd : dep < un
                      · have hm2 : (FloatKind.f64.format.order un dep == some Ordering.gt) = true := (pos_gt HU.out hdI).trans (decide_eq_true hmd)
                        have HX : Hid (max dep (min bb un) = un) := show _ = _ by omega
                        go_wp2_with fail
                        go_roundw
                        case rel =>
                          go_light
                          exact ⟨i + 1, un, rfl, by go_num, by omega, HU.out, HR.out, by rw [HD.out, HS.out, HX.out]⟩
                        case measure => simp [intOf]; omega
                      · have hm2 : (FloatKind.f64.format.order un dep == some Ordering.gt) = false := (pos_gt HU.out hdI).trans (decide_eq_false hmd)
                        have HX : Hid (max dep (min bb un) = dep) := show _ = _ by omega
                        go_wp2_with fail
                        go_roundw
                        case rel =>
                          go_light
                          exact ⟨i + 1, dep, rfl, by go_num, by omega, hdI, HR.out, by rw [HD.out, HS.out, HX.out]⟩
                        case measure => simp [intOf]; omega
                    · have hu2 : (FloatKind.f64.format.order un bb == some Ordering.lt) = false := (pos_lt HU.out hbI).trans (decide_eq_false hum)
                      by_cases hmd : dep < bb
                      · have hm2 : (FloatKind.f64.format.order bb dep == some Ordering.gt) = true := (pos_gt hbI hdI).trans (decide_eq_true hmd)
                        have HX : Hid (max dep (min bb un) = bb) := show _ = _ by omega
                        go_wp2_with fail
                        go_roundw
                        case rel =>
                          go_light
                          exact ⟨i + 1, bb, rfl, by go_num, by omega, hbI, HR.out, by rw [HD.out, HS.out, HX.out]⟩
                        case measure => simp [intOf]; omega
                      · have hm2 : (FloatKind.f64.format.order bb dep == some Ordering.gt) = false := (pos_gt hbI hdI).trans (decide_eq_false hmd)
                        have HX : Hid (max dep (min bb un) = dep) := show _ = _ by omega
                        go_wp2_with fail
                        go_roundw
                        case rel =>
                          go_light
                          exact ⟨i + 1, dep, rfl, by go_num, by omega, hdI, HR.out, by rw [HD.out, HS.out, HX.out]⟩
                        case measure => simp [intOf]; omega
                · clear hnn
                  cases hab : (D.order v ab == some .gt) with
                  | false =>
                    have hab2 : (FloatKind.f64.format.order v ab == some Ordering.gt) = false := hab
                    have cQ := HBOT.out wr wi HBR.out.2 HWI.out.1 HWI.out.2
                    go_wp2_with fail
                    refine cQ.mono ?_
                    rintro e W7 ⟨rfl, hb7⟩
                    clear cQ
                    have htl : botI s.size H (wid hr wi) lo g < s.size := botI_lt (lo := lo) (H := H) (wd := wid hr wi) HT.out.1.n0 HT.out.1.gk
                    have r1 := run_div (HT.out.1.fl.div _ htl)
                    have sc := HM.out W7 (HBR.out.2.trans (hb7.mono HBR.out.2.size)) _ htl
                    have r2 := run_div hv2
                    obtain ⟨a5, q3, q4, q5⟩ := (hvt _ htl).2
                    have r3 := run_sub q3
                    have r4 := run_div q4
                    have hBB : BB v bv (byD v h2 hr (botI s.size H (wid hr wi) lo g)) := .inl ⟨by rw [HBE.out, hab]; rfl, q5⟩
                    clear q3 q4 q5 htl
                    generalize byD v h2 hr (botI s.size H (wid hr wi) lo g) = bb at *
                    have htl : botI s.size H (wid hr wi) lo g < s.size := botI_lt (lo := lo) (H := H) (wd := wid hr wi) HT.out.1.n0 HT.out.1.gk
                    generalize botI s.size H (wid hr wi) lo g = tt at *
                    generalize s[tt]! = xx at *
                    generalize h2 tt = hh at *
                    have t1 : (tt : Int) < (s.size : Int) := by omega
                    have t2 : (0 : Int) ≤ (tt : Int) := by omega
                    go_upto_region 36 with fail
                    clear hab hab2 r1 r2 r3 r4 sc t1 t2 htl
                    have HR : Hid (Below W6.heap.size W6 W7) := HBR.out.1.trans (hb7.mono HBR.out.1.size)
                    have hgb := hBB.gt (x := x)
                    cases hg : (D.order bb x == some .gt) with
                    | false =>
                      have hg2 : (FloatKind.f64.format.order bb x == some Ordering.gt) = false := hg
                      rw [hg] at hgb
                      have HS : Hid (stepD bv x un dep = dep) := by show _ = _; unfold stepD; rw [← hgb]; rfl
                      clear hBB hgb hg hb7
                      go_wp2_with fail
                      go_roundw
                      case rel =>
                        go_light
                        exact ⟨i + 1, dep, rfl, by go_num, by omega, hdI, HR.out, by rw [HD.out, HS.out]⟩
                      case measure => simp [intOf]; omega
                    | true =>
                      have hg2 : (FloatKind.f64.format.order bb x == some Ordering.gt) = true := hg
                      obtain ⟨hbe, hb64⟩ := hBB.eq hg
                      obtain ⟨hbI, _⟩ := gt_pos hb64 (show 0 < x from Nat.lt_of_lt_of_le (by decide) hx1) hx2 hg
                      rw [hg] at hgb
                      have HS : Hid (stepD bv x un dep = max dep (min bb un)) := by show _ = _; unfold stepD; rw [← hgb, hbe]; rfl
                      clear hBB hgb hg hb7 hbe
                      by_cases hum : un < bb
                      · have hu2 : (FloatKind.f64.format.order un bb == some Ordering.lt) = true := (pos_lt HU.out hbI).trans (decide_eq_true hum)
                        by_cases hmd : dep < un
                        · have hm2 : (FloatKind.f64.format.order un dep == some Ordering.gt) = true := (pos_gt HU.out hdI).trans (decide_eq_true hmd)
                          have HX : Hid (max dep (min bb un) = un) := show _ = _ by omega
                          go_wp2_with fail
                          go_roundw
                          case rel =>
                            go_light
                            exact ⟨i + 1, un, rfl, by go_num, by omega, HU.out, HR.out, by rw [HD.out, HS.out, HX.out]⟩
                          case measure => simp [intOf]; omega
                        · have hm2 : (FloatKind.f64.format.order un dep == some Ordering.gt) = false := (pos_gt HU.out hdI).trans (decide_eq_false hmd)
                          have HX : Hid (max dep (min bb un) = dep) := show _ = _ by omega
                          go_wp2_with fail
                          go_roundw
                          case rel =>
                            go_light
                            exact ⟨i + 1, dep, rfl, by go_num, by omega, hdI, HR.out, by rw [HD.out, HS.out, HX.out]⟩
                          case measure => simp [intOf]; omega
                      · have hu2 : (FloatKind.f64.format.order un bb == some Ordering.lt) = false := (pos_lt HU.out hbI).trans (decide_eq_false hum)
                        by_cases hmd : dep < bb
                        · have hm2 : (FloatKind.f64.format.order bb dep == some Ordering.gt) = true := (pos_gt hbI hdI).trans (decide_eq_true hmd)
                          have HX : Hid (max dep (min bb un) = bb) := show _ = _ by omega
                          go_wp2_with fail
                          go_roundw
                          case rel =>
                            go_light
                            exact ⟨i + 1, bb, rfl, by go_num, by omega, hbI, HR.out, by rw [HD.out, HS.out, HX.out]⟩
                          case measure => simp [intOf]; omega
                        · have hm2 : (FloatKind.f64.format.order bb dep == some Ordering.gt) = false := (pos_gt hbI hdI).trans (decide_eq_false hmd)
                          have HX : Hid (max dep (min bb un) = dep) := show _ = _ by omega
                          go_wp2_with fail
                          go_roundw
                          case rel =>
                            go_light
                            exact ⟨i + 1, dep, rfl, by go_num, by omega, hdI, HR.out, by rw [HD.out, HS.out, HX.out]⟩
                          case measure => simp [intOf]; omega
                  | true =>
                    have hab2 : (FloatKind.f64.format.order v ab == some Ordering.gt) = true := hab
                    have cQ := HTOP.out wr wi HBR.out.2 HWI.out.1 HWI.out.2
                    have r2 := run_div hv2
                    go_wp2_with fail
                    refine cQ.mono ?_
                    rintro e W7 ⟨rfl, hb7⟩
                    clear cQ
                    have htl : topI s.size H (wid hr wi) up g < s.size := topI_lt (up := up) (H := H) (wd := wid hr wi) HT.out.1.n0 HT.out.1.gk
                    have r1 := run_div (HT.out.1.fl.div _ htl)
                    have sc := HM.out W7 (HBR.out.2.trans (hb7.mono HBR.out.2.size)) _ htl
                    obtain ⟨a5, q3, q4, q5⟩ := (hvt _ htl).1
                    have r3 := run_sub q3
                    have r4 := run_div q4
                    have hBB : BB v bv (byU v h2 hr (topI s.size H (wid hr wi) up g)) := .inl ⟨by rw [HBE.out, hab]; rfl, q5⟩
                    clear q3 q4 q5 htl
                    generalize byU v h2 hr (topI s.size H (wid hr wi) up g) = bb at *
                    have htl : topI s.size H (wid hr wi) up g < s.size := topI_lt (up := up) (H := H) (wd := wid hr wi) HT.out.1.n0 HT.out.1.gk
                    generalize topI s.size H (wid hr wi) up g = tt at *
                    generalize s[tt]! = xx at *
                    generalize h2 tt = hh at *
                    have t1 : (tt : Int) < (s.size : Int) := by omega
                    have t2 : (0 : Int) ≤ (tt : Int) := by omega
                    go_upto_region 36 with fail
                    clear hab hab2 r1 r2 r3 r4 sc t1 t2 htl
                    have HR : Hid (Below W6.heap.size W6 W7) := HBR.out.1.trans (hb7.mono HBR.out.1.size)
                    have hgb := hBB.gt (x := x)
                    cases hg : (D.order bb x == some .gt) with
                    | false =>
                      have hg2 : (FloatKind.f64.format.order bb x == some Ordering.gt) = false := hg
                      rw [hg] at hgb
                      have HS : Hid (stepD bv x un dep = dep) := by show _ = _; unfold stepD; rw [← hgb]; rfl
                      clear hBB hgb hg hb7
                      go_wp2_with fail
                      go_roundw
                      case rel =>
                        go_light
                        exact ⟨i + 1, dep, rfl, by go_num, by omega, hdI, HR.out, by rw [HD.out, HS.out]⟩
                      case measure => simp [intOf]; omega
                    | true =>
                      have hg2 : (FloatKind.f64.format.order bb x == some Ordering.gt) = true := hg
                      obtain ⟨hbe, hb64⟩ := hBB.eq hg
                      obtain ⟨hbI, _⟩ := gt_pos hb64 (show 0 < x from Nat.lt_of_lt_of_le (by decide) hx1) hx2 hg
                      rw [hg] at hgb
                      have HS : Hid (stepD bv x un dep = max dep (min bb un)) := by show _ = _; unfold stepD; rw [← hgb, hbe]; rfl
                      clear hBB hgb hg hb7 hbe
                      by_cases hum : un < bb
                      · have hu2 : (FloatKind.f64.format.order un bb == some Ordering.lt) = true := (pos_lt HU.out hbI).trans (decide_eq_true hum)
                        by_cases hmd : dep < un
                        · have hm2 : (FloatKind.f64.format.order un dep == some Ordering.gt) = true := (pos_gt HU.out hdI).trans (decide_eq_true hmd)
                          have HX : Hid (max dep (min bb un) = un) := show _ = _ by omega
                          go_wp2_with fail
                          go_roundw
                          case rel =>
                            go_light
                            exact ⟨i + 1, un, rfl, by go_num, by omega, HU.out, HR.out, by rw [HD.out, HS.out, HX.out]⟩
                          case measure => simp [intOf]; omega
                        · have hm2 : (FloatKind.f64.format.order un dep == some Ordering.gt) = false := (pos_gt HU.out hdI).trans (decide_eq_false hmd)
                          have HX : Hid (max dep (min bb un) = dep) := show _ = _ by omega
                          go_wp2_with fail
                          go_roundw
                          case rel =>
                            go_light
                            exact ⟨i + 1, dep, rfl, by go_num, by omega, hdI, HR.out, by rw [HD.out, HS.out, HX.out]⟩
                          case measure => simp [intOf]; omega
                      · have hu2 : (FloatKind.f64.format.order un bb == some Ordering.lt) = false := (pos_lt HU.out hbI).trans (decide_eq_false hum)
                        by_cases hmd : dep < bb
                        · have hm2 : (FloatKind.f64.format.order bb dep == some Ordering.gt) = true := (pos_gt hbI hdI).trans (decide_eq_true hmd)
                          have HX : Hid (max dep (min bb un) = bb) := show _ = _ by omega
                          go_wp2_with fail
                          go_roundw
                          case rel =>
                            go_light
                            exact ⟨i + 1, bb, rfl, by go_num, by omega, hbI, HR.out, by rw [HD.out, HS.out, HX.out]⟩
                          case measure => simp [intOf]; omega
                        · have hm2 : (FloatKind.f64.format.order bb dep == some Ordering.gt) = false := (pos_gt hbI hdI).trans (decide_eq_false hmd)
                          have HX : Hid (max dep (min bb un) = dep) := show _ = _ by omega
                          go_wp2_with fail
                          go_roundw
                          case rel =>
                            go_light
                            exact ⟨i + 1, dep, rfl, by go_num, by omega, hdI, HR.out, by rw [HD.out, HS.out, HX.out]⟩
                          case measure => simp [intOf]; omega
              · have i2 : ¬ (i : Int) + 1 < (n : Int) := by omega
                have hy : C[i + 1]? = none := List.getElem?_eq_none (by have := HL.out; omega)
                rw [hy] at HD HWI
                clear hy hbr hbw
                go_upto_region 32 with fail
                clear cx e1 i2
                have HD : Hid (depL (bey s.size h2 H hr lo up g v ab) C 0 = depL (bey s.size h2 H hr lo up g v ab) (C.drop (i + 1)) (stepD (bey s.size h2 H hr lo up g v ab x none) x 9218868437227405312 dep)) := HD.out
                obtain ⟨un, hun⟩ : ∃ un : Nat, un = 9218868437227405312 := ⟨_, rfl⟩
                rw [← hun] at HD ⊢
                have HU : Hid (un ≤ 9218868437227405312) := Nat.le_of_eq hun
                clear hun
                have HBE : Hid (bey s.size h2 H hr lo up g v ab x none = if (D.order v ab == some .gt) = true then byU v h2 hr (topI s.size H (wid hr (withinF x none)) up g) else byD v h2 hr (botI s.size H (wid hr (withinF x none)) lo g)) := rfl
                generalize bey s.size h2 H hr lo up g v ab x none = bv at *
                generalize withinF x none = wi at *
                rcases HT.out.2.2 with hnan | ⟨hnn, v2, hv2, hvt⟩
                · have hab : (D.order v ab == some .gt) = false := by rw [order_nan (.inl hnan)]; rfl
                  have hab2 : (FloatKind.f64.format.order v ab == some Ordering.gt) = false := hab
                  have cQ := HBOT.out wr wi HBR.out.2 HWI.out.1 HWI.out.2
                  go_wp2_with fail
                  refine cQ.mono ?_
                  rintro e W8 ⟨rfl, hb8⟩
                  clear cQ
                  have htl : botI s.size H (wid hr wi) lo g < s.size := botI_lt (lo := lo) (H := H) (wd := wid hr wi) HT.out.1.n0 HT.out.1.gk
                  have r1 := run_div (HT.out.1.fl.div _ htl)
                  have sc := HM.out W8 (HBR.out.2.trans (hb8.mono HBR.out.2.size)) _ htl
                  have hbv : nanF bv = true := by
                    rw [HBE.out, if_neg (by rw [hab]; decide)]
                    unfold byD
                    rw [div_nan hnan]
                    show nanF NANW = true
                    rw [nanF_iff]; decide
                  generalize botI s.size H (wid hr wi) lo g = tt at *
                  generalize s[tt]! = xx at *
                  generalize h2 tt = hh at *
                  have t1 : (tt : Int) < (s.size : Int) := by omega
                  have t2 : (0 : Int) ≤ (tt : Int) := by omega
                  obtain ⟨m1, k1, _, r2⟩ := run_div_nan (div_nan (y := two) hnan) W8
                  have b9 : Below wr.heap.size wr { W8 with drawn := W8.drawn + 1 } := below_drawn2 hb8
                  generalize { W8 with drawn := W8.drawn + 1 } = W9 at *
                  obtain ⟨m2, k2, _, r3⟩ := run_sub_nan (sub_nan_right (x := hh) k1) W9
                  have b10 : Below wr.heap.size wr { W9 with drawn := W9.drawn + 1 } := below_drawn2 b9
                  generalize { W9 with drawn := W9.drawn + 1 } = W10 at *
                  obtain ⟨bb, k3, _, r4⟩ := run_div_nan (div_nan (y := hr) k2) W10
                  have hb7 : Below wr.heap.size wr { W10 with drawn := W10.drawn + 1 } := below_drawn2 b10
                  generalize { W10 with drawn := W10.drawn + 1 } = W7 at *
                  have hBB : BB v bv bb := .inr ⟨k3, hbv, hnan⟩
                  clear hb8 b9 b10 k1 k2 k3 hbv htl
                  go_upto_region 36 with fail
                  clear hab hab2 r1 r2 r3 r4 sc t1 t2
                  have HR : Hid (Below W6.heap.size W6 W7) := HBR.out.1.trans (hb7.mono HBR.out.1.size)
                  have hgb := hBB.gt (x := x)
                  cases hg : (D.order bb x == some .gt) with
                  | false =>
                    have hg2 : (FloatKind.f64.format.order bb x == some Ordering.gt) = false := hg
                    rw [hg] at hgb
                    have HS : Hid (stepD bv x un dep = dep) := by show _ = _; unfold stepD; rw [← hgb]; rfl
                    clear hBB hgb hg hb7
                    go_wp2_with fail
                    go_roundw
                    case rel =>
                      go_light
                      exact ⟨i + 1, dep, rfl, by go_num, by omega, hdI, HR.out, by rw [HD.out, HS.out]⟩
                    case measure => simp [intOf]; omega
                  | true =>
                    have hg2 : (FloatKind.f64.format.order bb x == some Ordering.gt) = true := hg
                    obtain ⟨hbe, hb64⟩ := hBB.eq hg
                    obtain ⟨hbI, _⟩ := gt_pos hb64 (show 0 < x from Nat.lt_of_lt_of_le (by decide) hx1) hx2 hg
                    rw [hg] at hgb
                    have HS : Hid (stepD bv x un dep = max dep (min bb un)) := by show _ = _; unfold stepD; rw [← hgb, hbe]; rfl
                    clear hBB hgb hg hb7 hbe
                    by_cases hum : un < bb
                    · have hu2 : (FloatKind.f64.format.order un bb == some Ordering.lt) = true := (pos_lt HU.out hbI).trans (decide_eq_true hum)
                      by_cases hmd : dep < un
                      · have hm2 : (FloatKind.f64.format.order un dep == some Ordering.gt) = true := (pos_gt HU.out hdI).trans (decide_eq_true hmd)
                        have HX : Hid (max dep (min bb un) = un) := show _ = _ by omega
                        go_wp2_with fail
                        go_roundw
                        case rel =>
                          go_light
                          exact ⟨i + 1, un, rfl, by go_num, by omega, HU.out, HR.out, by rw [HD.out, HS.out, HX.out]⟩
                        case measure => simp [intOf]; omega
                      · have hm2 : (FloatKind.f64.format.order un dep == some Ordering.gt) = false := (pos_gt HU.out hdI).trans (decide_eq_false hmd)
                        have HX : Hid (max dep (min bb un) = dep) := show _ = _ by omega
                        go_wp2_with fail
                        go_roundw
                        case rel =>
                          go_light
                          exact ⟨i + 1, dep, rfl, by go_num, by omega, hdI, HR.out, by rw [HD.out, HS.out, HX.out]⟩
                        case measure => simp [intOf]; omega
                    · have hu2 : (FloatKind.f64.format.order un bb == some Ordering.lt) = false := (pos_lt HU.out hbI).trans (decide_eq_false hum)
                      by_cases hmd : dep < bb
                      · have hm2 : (FloatKind.f64.format.order bb dep == some Ordering.gt) = true := (pos_gt hbI hdI).trans (decide_eq_true hmd)
                        have HX : Hid (max dep (min bb un) = bb) := show _ = _ by omega
                        go_wp2_with fail
                        go_roundw
                        case rel =>
                          go_light
                          exact ⟨i + 1, bb, rfl, by go_num, by omega, hbI, HR.out, by rw [HD.out, HS.out, HX.out]⟩
                        case measure => simp [intOf]; omega
                      · have hm2 : (FloatKind.f64.format.order bb dep == some Ordering.gt) = false := (pos_gt hbI hdI).trans (decide_eq_false hmd)
                        have HX : Hid (max dep (min bb un) = dep) := show _ = _ by omega
                        go_wp2_with fail
                        go_roundw
                        case rel =>
                          go_light
                          exact ⟨i + 1, dep, rfl, by go_num, by omega, hdI, HR.out, by rw [HD.out, HS.out, HX.out]⟩
                        case measure => simp [intOf]; omega
                · clear hnn
                  cases hab : (D.order v ab == some .gt) with
                  | false =>
                    have hab2 : (FloatKind.f64.format.order v ab == some Ordering.gt) = false := hab
                    have cQ := HBOT.out wr wi HBR.out.2 HWI.out.1 HWI.out.2
                    go_wp2_with fail
                    refine cQ.mono ?_
                    rintro e W7 ⟨rfl, hb7⟩
                    clear cQ
                    have htl : botI s.size H (wid hr wi) lo g < s.size := botI_lt (lo := lo) (H := H) (wd := wid hr wi) HT.out.1.n0 HT.out.1.gk
                    have r1 := run_div (HT.out.1.fl.div _ htl)
                    have sc := HM.out W7 (HBR.out.2.trans (hb7.mono HBR.out.2.size)) _ htl
                    have r2 := run_div hv2
                    obtain ⟨a5, q3, q4, q5⟩ := (hvt _ htl).2
                    have r3 := run_sub q3
                    have r4 := run_div q4
                    have hBB : BB v bv (byD v h2 hr (botI s.size H (wid hr wi) lo g)) := .inl ⟨by rw [HBE.out, hab]; rfl, q5⟩
                    clear q3 q4 q5 htl
                    generalize byD v h2 hr (botI s.size H (wid hr wi) lo g) = bb at *
                    have htl : botI s.size H (wid hr wi) lo g < s.size := botI_lt (lo := lo) (H := H) (wd := wid hr wi) HT.out.1.n0 HT.out.1.gk
                    generalize botI s.size H (wid hr wi) lo g = tt at *
                    generalize s[tt]! = xx at *
                    generalize h2 tt = hh at *
                    have t1 : (tt : Int) < (s.size : Int) := by omega
                    have t2 : (0 : Int) ≤ (tt : Int) := by omega
                    go_upto_region 36 with fail
                    clear hab hab2 r1 r2 r3 r4 sc t1 t2 htl
                    have HR : Hid (Below W6.heap.size W6 W7) := HBR.out.1.trans (hb7.mono HBR.out.1.size)
                    have hgb := hBB.gt (x := x)
                    cases hg : (D.order bb x == some .gt) with
                    | false =>
                      have hg2 : (FloatKind.f64.format.order bb x == some Ordering.gt) = false := hg
                      rw [hg] at hgb
                      have HS : Hid (stepD bv x un dep = dep) := by show _ = _; unfold stepD; rw [← hgb]; rfl
                      clear hBB hgb hg hb7
                      go_wp2_with fail
                      go_roundw
                      case rel =>
                        go_light
                        exact ⟨i + 1, dep, rfl, by go_num, by omega, hdI, HR.out, by rw [HD.out, HS.out]⟩
                      case measure => simp [intOf]; omega
                    | true =>
                      have hg2 : (FloatKind.f64.format.order bb x == some Ordering.gt) = true := hg
                      obtain ⟨hbe, hb64⟩ := hBB.eq hg
                      obtain ⟨hbI, _⟩ := gt_pos hb64 (show 0 < x from Nat.lt_of_lt_of_le (by decide) hx1) hx2 hg
                      rw [hg] at hgb
                      have HS : Hid (stepD bv x un dep = max dep (min bb un)) := by show _ = _; unfold stepD; rw [← hgb, hbe]; rfl
                      clear hBB hgb hg hb7 hbe
                      by_cases hum : un < bb
                      · have hu2 : (FloatKind.f64.format.order un bb == some Ordering.lt) = true := (pos_lt HU.out hbI).trans (decide_eq_true hum)
                        by_cases hmd : dep < un
                        · have hm2 : (FloatKind.f64.format.order un dep == some Ordering.gt) = true := (pos_gt HU.out hdI).trans (decide_eq_true hmd)
                          have HX : Hid (max dep (min bb un) = un) := show _ = _ by omega
                          go_wp2_with fail
                          go_roundw
                          case rel =>
                            go_light
                            exact ⟨i + 1, un, rfl, by go_num, by omega, HU.out, HR.out, by rw [HD.out, HS.out, HX.out]⟩
                          case measure => simp [intOf]; omega
                        · have hm2 : (FloatKind.f64.format.order un dep == some Ordering.gt) = false := (pos_gt HU.out hdI).trans (decide_eq_false hmd)
                          have HX : Hid (max dep (min bb un) = dep) := show _ = _ by omega
                          go_wp2_with fail
                          go_roundw
                          case rel =>
                            go_light
                            exact ⟨i + 1, dep, rfl, by go_num, by omega, hdI, HR.out, by rw [HD.out, HS.out, HX.out]⟩
                          case measure => simp [intOf]; omega
                      · have hu2 : (FloatKind.f64.format.order un bb == some Ordering.lt) = false := (pos_lt HU.out hbI).trans (decide_eq_false hum)
                        by_cases hmd : dep < bb
                        · have hm2 : (FloatKind.f64.format.order bb dep == some Ordering.gt) = true := (pos_gt hbI hdI).trans (decide_eq_true hmd)
                          have HX : Hid (max dep (min bb un) = bb) := show _ = _ by omega
                          go_wp2_with fail
                          go_roundw
                          case rel =>
                            go_light
                            exact ⟨i + 1, bb, rfl, by go_num, by omega, hbI, HR.out, by rw [HD.out, HS.out, HX.out]⟩
                          case measure => simp [intOf]; omega
                        · have hm2 : (FloatKind.f64.format.order bb dep == some Ordering.gt) = false := (pos_gt hbI hdI).trans (decide_eq_false hmd)
                          have HX : Hid (max dep (min bb un) = dep) := show _ = _ by omega
                          go_wp2_with fail
                          go_roundw
                          case rel =>
                            go_light
                            exact ⟨i + 1, dep, rfl, by go_num, by omega, hdI, HR.out, by rw [HD.out, HS.out, HX.out]⟩
                          case measure => simp [intOf]; omega
                  | true =>
                    have hab2 : (FloatKind.f64.format.order v ab == some Ordering.gt) = true := hab
                    have cQ := HTOP.out wr wi HBR.out.2 HWI.out.1 HWI.out.2
                    have r2 := run_div hv2
                    go_wp2_with fail
                    refine cQ.mono ?_
                    rintro e W7 ⟨rfl, hb7⟩
                    clear cQ
                    have htl : topI s.size H (wid hr wi) up g < s.size := topI_lt (up := up) (H := H) (wd := wid hr wi) HT.out.1.n0 HT.out.1.gk
                    have r1 := run_div (HT.out.1.fl.div _ htl)
                    have sc := HM.out W7 (HBR.out.2.trans (hb7.mono HBR.out.2.size)) _ htl
                    obtain ⟨a5, q3, q4, q5⟩ := (hvt _ htl).1
                    have r3 := run_sub q3
                    have r4 := run_div q4
                    have hBB : BB v bv (byU v h2 hr (topI s.size H (wid hr wi) up g)) := .inl ⟨by rw [HBE.out, hab]; rfl, q5⟩
                    clear q3 q4 q5 htl
                    generalize byU v h2 hr (topI s.size H (wid hr wi) up g) = bb at *
                    have htl : topI s.size H (wid hr wi) up g < s.size := topI_lt (up := up) (H := H) (wd := wid hr wi) HT.out.1.n0 HT.out.1.gk
                    generalize topI s.size H (wid hr wi) up g = tt at *
                    generalize s[tt]! = xx at *
                    generalize h2 tt = hh at *
                    have t1 : (tt : Int) < (s.size : Int) := by omega
                    have t2 : (0 : Int) ≤ (tt : Int) := by omega
                    go_upto_region 36 with fail
                    clear hab hab2 r1 r2 r3 r4 sc t1 t2 htl
                    have HR : Hid (Below W6.heap.size W6 W7) := HBR.out.1.trans (hb7.mono HBR.out.1.size)
                    have hgb := hBB.gt (x := x)
                    cases hg : (D.order bb x == some .gt) with
                    | false =>
                      have hg2 : (FloatKind.f64.format.order bb x == some Ordering.gt) = false := hg
                      rw [hg] at hgb
                      have HS : Hid (stepD bv x un dep = dep) := by show _ = _; unfold stepD; rw [← hgb]; rfl
                      clear hBB hgb hg hb7
                      go_wp2_with fail
                      go_roundw
                      case rel =>
                        go_light
                        exact ⟨i + 1, dep, rfl, by go_num, by omega, hdI, HR.out, by rw [HD.out, HS.out]⟩
                      case measure => simp [intOf]; omega
                    | true =>
                      have hg2 : (FloatKind.f64.format.order bb x == some Ordering.gt) = true := hg
                      obtain ⟨hbe, hb64⟩ := hBB.eq hg
                      obtain ⟨hbI, _⟩ := gt_pos hb64 (show 0 < x from Nat.lt_of_lt_of_le (by decide) hx1) hx2 hg
                      rw [hg] at hgb
                      have HS : Hid (stepD bv x un dep = max dep (min bb un)) := by show _ = _; unfold stepD; rw [← hgb, hbe]; rfl
                      clear hBB hgb hg hb7 hbe
                      by_cases hum : un < bb
                      · have hu2 : (FloatKind.f64.format.order un bb == some Ordering.lt) = true := (pos_lt HU.out hbI).trans (decide_eq_true hum)
                        by_cases hmd : dep < un
                        · have hm2 : (FloatKind.f64.format.order un dep == some Ordering.gt) = true := (pos_gt HU.out hdI).trans (decide_eq_true hmd)
                          have HX : Hid (max dep (min bb un) = un) := show _ = _ by omega
                          go_wp2_with fail
                          go_roundw
                          case rel =>
                            go_light
                            exact ⟨i + 1, un, rfl, by go_num, by omega, HU.out, HR.out, by rw [HD.out, HS.out, HX.out]⟩
                          case measure => simp [intOf]; omega
                        · have hm2 : (FloatKind.f64.format.order un dep == some Ordering.gt) = false := (pos_gt HU.out hdI).trans (decide_eq_false hmd)
                          have HX : Hid (max dep (min bb un) = dep) := show _ = _ by omega
                          go_wp2_with fail
                          go_roundw
                          case rel =>
                            go_light
                            exact ⟨i + 1, dep, rfl, by go_num, by omega, hdI, HR.out, by rw [HD.out, HS.out, HX.out]⟩
                          case measure => simp [intOf]; omega
                      · have hu2 : (FloatKind.f64.format.order un bb == some Ordering.lt) = false := (pos_lt HU.out hbI).trans (decide_eq_false hum)
                        by_cases hmd : dep < bb
                        · have hm2 : (FloatKind.f64.format.order bb dep == some Ordering.gt) = true := (pos_gt hbI hdI).trans (decide_eq_true hmd)
                          have HX : Hid (max dep (min bb un) = bb) := show _ = _ by omega
                          go_wp2_with fail
                          go_roundw
                          case rel =>
                            go_light
                            exact ⟨i + 1, bb, rfl, by go_num, by omega, hbI, HR.out, by rw [HD.out, HS.out, HX.out]⟩
                          case measure => simp [intOf]; omega
                        · have hm2 : (FloatKind.f64.format.order bb dep == some Ordering.gt) = false := (pos_gt hbI hdI).trans (decide_eq_false hmd)
                          have HX : Hid (max dep (min bb un) = dep) := show _ = _ by omega
                          go_wp2_with fail
                          go_roundw
                          case rel =>
                            go_light
                            exact ⟨i + 1, dep, rfl, by go_num, by omega, hdI, HR.out, by rw [HD.out, HS.out, HX.out]⟩
                          case measure => simp [intOf]; omega
            · have i1 : ¬ (i : Int) < (n : Int) := by omega
              have HE : Hid (C.drop i = []) := (show C.drop i = [] from List.drop_of_length_le (by have := HL.out; omega))
              have HD := (show Hid _ from And.intro hdep hbr)
              clear hdep hbr
              go_wp2_with fail
              go_ret
              exact ⟨⟨C, HAs.out, by rw [HRR.out, if_neg (by decide), HD.out.1, HE.out]; rfl⟩, HW.out.trans (HD.out.2.mono HW.out.size)⟩
end Go.Proofs.YbulkdswcDoor
