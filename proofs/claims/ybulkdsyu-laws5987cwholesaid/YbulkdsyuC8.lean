import Derived.Test.YbulkdsyuC7e
import Derived.Test.YbulkdsyuB8
import Derived.Deep.CutBlock
import Derived.Laws.Tables
import Derived.Deep.CutRange
namespace Go.Proofs.Ybulkdsyu
open Go Go.RowKit Go.Maps Go.WideMaps Go.WideElems

theorem built149 : Yba.prog.built 149 [] = some Yba.zeroCells149 := by kernel_rfl
theorem wpList_build149 {ops : Array Oper} {rest : List Oper} {o : Oper} {a : Act} {w : World} {Q : Exit → Act → World → Prop} (hg : o.guard = none) (ho : o.op = .build 149 #[])
    (h : wpList Yba.prog ops Q rest (a.put o.dst (.agg Yba.zeroCells149)) w) : wpList Yba.prog ops Q (o :: rest) a w :=
  wpList_build hg 149 #[] ho (by simp [built149]) (by simpa [built149] using h)
theorem run_build149 (w : World) : (Instr.build 149 #[]).run Yba.prog w = .ok (.agg Yba.zeroCells149) w := run_build w 149 #[] _ built149

set_option maxHeartbeats 8000000 in
set_option maxRecDepth 100000 in
theorem lawC_main (nn kn : Nat) (hnn : nn < 256) (hkn : kn < 18446744073709551616) (pp : Option Addr) (np pc : Nat) (qp : Nat → Option Addr) (ql qc : Nat → Nat) (qf : Nat → Nat → Int) (pl : Option Addr) (nl cl : Nat) (xs : List Int) (hm : Bool)
    (pi : Option Addr) (ni ci : Nat) (fi : Nat → Int × Int) (pk : Option Addr) (nk ck : Nat) (fk : Nat → Int × Int) (w : World) (hnp : np ≤ 140737488355328) (hnl : nl ≤ 140737488355328) (hni : ni ≤ 140737488355328) (hnk : nk ≤ 140737488355328) (hql : ∀ i, i < np → ql i ≤ 140737488355328)
    (h : ArgsC w pp np qp ql qc qf pl nl xs pi ni fi pk nk fk) :
    Calls Yba.prog 5 #[.int .u8 nn, .int .u64 kn, .slice pp np pc, .slice pl nl cl, .bool hm, .slice pi ni ci, .slice pk nk ck] w fun e w' => e = .returned (.bool true) ∧ Below w.heap.size w w' := by
  have H : Hid (ArgsC w pp np qp ql qc qf pl nl xs pi ni fi pk nk fk) := h
  have HQ : Hid (∀ i, i < np → ql i ≤ 140737488355328) := hql
  clear h hql
  have z1 : (np : Int) ≤ 140737488355328 := by omega
  have z2 : (nl : Int) ≤ 140737488355328 := by omega
  have z3 : (ni : Int) ≤ 140737488355328 := by omega
  have z4 : (nk : Int) ≤ 140737488355328 := by omega
  have y1 : (0 : Int) ≤ (np : Int) := by omega
  have y2 : (0 : Int) ≤ (nl : Int) := by omega
  have y3 : (0 : Int) ≤ (ni : Int) := by omega
  have y4 : (0 : Int) ≤ (nk : Int) := by omega
  have x1 : (nn : Int) < 256 := by omega
  have x0 : (0 : Int) ≤ (nn : Int) := by omega
  have k1 : (kn : Int) < 18446744073709551616 := by omega
  have k0 : (0 : Int) ≤ (kn : Int) := by omega
  by_cases hbig : 4096 < nl + ni + nk + np
  · have hb1 : (4096 : Int) < (nl : Int) + (ni : Int) + (nk : Int) + (np : Int) := by omega
    go_enter Yba.func5, Yba.ntmps5
    go_wp2
    go_ret
    exact ⟨rfl, Below.refl _ _⟩
  · have hb1 : ¬ (4096 : Int) < (nl : Int) + (ni : Int) + (nk : Int) + (np : Int) := by omega
    obtain ⟨sz, hsz⟩ : ∃ sz : Nat, 1 + (nn : Int) % 16 = (sz : Int) := ⟨1 + nn % 16, by omega⟩
    have s1 : (1 : Int) ≤ (sz : Int) := by omega
    have s2 : (sz : Int) ≤ 16 := by omega
    obtain ⟨M, hM1, hM2, hM3⟩ : ∃ M : Nat, M ≤ sz ∧ M ≤ np ∧ (M = sz ∨ M = np) := ⟨min sz np, by omega, by omega, by omega⟩
    go_enter Yba.func5, Yba.ntmps5
    go_upto_block 0 with fail
    go_cut [16, 17] from 64 to 81 (fun vt vi wx => vt = .int .i64 (sumTo ql M : Nat) ∧ w = wx)
    case first =>
      go_wp2_with fail
      go_loop [16, 17] (fun vt vi => ∃ k : Nat, k ≤ M ∧ vi = .int .i64 k ∧ vt = .int .i64 (sumTo ql k : Nat)) (fun _ vi => M - (intOf vi).toNat)
      case atStart => exact ⟨0, Nat.zero_le _, rfl, rfl⟩
      case round =>
        obtain ⟨k, hk, rfl, rfl⟩ := hrel
        have hk0 : (0 : Int) ≤ (k : Int) := by omega
        have t1 : sumTo ql k ≤ k * 140737488355328 := sumTo_le ql _ k fun i hi => HQ.out i (by omega)
        have t2 : (sumTo ql k : Int) ≤ 16 * 140737488355328 := by
          have : k * 140737488355328 ≤ 16 * 140737488355328 := Nat.mul_le_mul_right _ (by omega)
          omega
        have t3 : (0 : Int) ≤ (sumTo ql k : Int) := by omega
        by_cases hkM : k < M
        · have q1 : (k : Int) < (sz : Int) := by omega
          have q2 : (k : Int) < (np : Int) := by omega
          have q3 : (ql k : Int) ≤ 140737488355328 := by have := HQ.out k (by omega); omega
          have q4 : (0 : Int) ≤ (ql k : Int) := by omega
          obtain ⟨b, off, rfl, hb, hc⟩ := H.out.prev k (by omega)
          go_wp2
          go_round
          case rel => go_light; exact ⟨k + 1, by omega, by go_num, by simp [sumTo]⟩
          case measure => simp [intOf]; omega
        · obtain rfl : k = M := by omega
          by_cases q1 : (k : Int) < (sz : Int)
          · have q2 : ¬ (k : Int) < (np : Int) := by omega
            go_wp2_with fail
            go_meet
            case rel => exact ⟨rfl, rfl⟩
          · go_wp2_with fail
            go_meet
            case rel => exact ⟨rfl, rfl⟩
    case rest =>
      obtain ⟨rfl, rfl⟩ := hcut
      have t2 : (sumTo ql M : Int) ≤ 16 * 140737488355328 := by
        have t1 : sumTo ql M ≤ M * 140737488355328 := sumTo_le ql _ M fun i hi => HQ.out i (by omega)
        have : M * 140737488355328 ≤ 16 * 140737488355328 := Nat.mul_le_mul_right _ (by omega)
        omega
      have t3 : (0 : Int) ≤ (sumTo ql M : Int) := by omega
      by_cases htot : (1048576 : Int) < (sumTo ql M : Int)
      · go_wp2
        go_ret
        exact ⟨rfl, Below.refl _ _⟩
      · have hq2 : ∀ i, i < M → ql i ≤ 1048576 := fun i hi => by have := sumTo_ge ql hi; omega
        have HQ2 : Hid (∀ i, i < M → ql i ≤ 1048576) := hq2
        clear hq2
        have hmk := run_make66 sz (by omega) w
        go_upto_block 2 with fail
        clear hmk
        generalize hW0 : w.alloc (.cells (madeCells #[.slice none 0 0] sz) 55) = W0
        have HB0 : Hid (Below w.heap.size w W0 ∧ Heard w.heap.size w.heap.size sz np ql qf 0 (fun _ => .slice none 0 0) W0) := by
          rw [← hW0]
          exact ⟨(Below.refl _ w).alloc (Nat.le_refl _) _, World.rowIs_made w _ sz 55, fun i hi => by omega, fun i _ => rfl⟩
        clear hW0
        go_cut [19] from 86 to 104 (fun vi wx => ∃ hv, Below w.heap.size w wx ∧ Heard w.heap.size w.heap.size sz np ql qf M hv wx)
        case first =>
          go_wp2_with fail
          go_loopw [19] (fun vi wr => ∃ (k : Nat) (hv : Nat → Value), k ≤ M ∧ vi = .int .i64 k ∧ Below w.heap.size w wr ∧ Heard w.heap.size w.heap.size sz np ql qf k hv wr) (fun vi _ => M - (intOf vi).toNat)
          case atStart => exact ⟨0, _, Nat.zero_le _, rfl, HB0.out.1, HB0.out.2⟩
          case round =>
            obtain ⟨k, hv, hk, rfl, hbel, hH⟩ := hrel
            have hk0 : (0 : Int) ≤ (k : Int) := by omega
            by_cases hkM : k < M
            · have q1 : (k : Int) < (sz : Int) := by omega
              have q2 : (k : Int) < (np : Int) := by omega
              obtain ⟨b, off, rfl, hb, hc0⟩ := H.out.prev k (by omega)
              have hc : wr.cell? ⟨b, off + k, none⟩ = some (.slice (qp k) (ql k) (qc k)) := (hbel.cell (p := ⟨b, off + k, none⟩) hb).trans hc0
              have cC := clone_ints (qp k) (ql k) (qc k) (qf k) wr (HQ2.out k hkM) ((H.out.rows k (by omega)).kept hbel (Nat.le_refl _))
              have HH : Hid (Heard w.heap.size w.heap.size sz np ql qf k hv wr ∧ Below w.heap.size w wr) := ⟨hH, hbel⟩
              have g1 : wr.cell? ⟨w.heap.size, k, none⟩ = some (hv k) := hH.row.cell (by omega)
              have g2 : wr.frozen? ⟨w.heap.size, k, none⟩ = false := hH.row.frozen k
              have g3 : w.heap.size < wr.heap.size := hH.row.lt
              clear hc0 hH hbel
              go_wp2_with fail
              refine cC.mono ?_
              rintro e w' ⟨pv, cv, rfl, hrow, hb2⟩
              have g4 : w'.cell? ⟨w.heap.size, k, none⟩ = some (hv k) := (hb2.cell (p := ⟨w.heap.size, k, none⟩) g3).trans g1
              have g5 : w'.frozen? ⟨w.heap.size, k, none⟩ = false := (World.frozen?_of_block (w := wr) (hb2.block _ g3)).trans g2
              have HN : Hid (Heard w.heap.size w.heap.size sz np ql qf (k + 1) (fun i => if i = k then .slice pv (ql k) cv else hv i) (w'.setCell ⟨w.heap.size, k, none⟩ (.slice pv (ql k) cv)) ∧ Below w.heap.size w (w'.setCell ⟨w.heap.size, k, none⟩ (.slice pv (ql k) cv))) :=
                ⟨HH.out.1.step HH.out.2.size hb2 hrow, (HH.out.2.trans (hb2.mono HH.out.2.size)).setCell (Nat.le_refl _) _⟩
              clear HH hrow hb2 g1 g2 g3 cC
              go_wp2
              go_roundw
              case rel => go_light; exact ⟨k + 1, _, by omega, by go_num, HN.out.2, HN.out.1⟩
              case measure => simp [intOf]; omega
            · have e : k = M := by omega
              have HH : Hid (Below w.heap.size w wr ∧ Heard w.heap.size w.heap.size sz np ql qf M hv wr) := by rw [← e]; exact ⟨hbel, hH⟩
              clear hH hbel HB0
              by_cases q1 : (k : Int) < (sz : Int)
              · have q2 : ¬ (k : Int) < (np : Int) := by omega
                clear e
                go_wp2_with fail
                go_meet
                case rel => exact ⟨hv, HH.out⟩
              · clear e
                go_wp2_with fail
                go_meet
                case rel => exact ⟨hv, HH.out⟩
        case rest =>
          obtain ⟨hv, hbel, hH⟩ := hcut
          obtain ⟨W1, rfl⟩ : ∃ W1 : World, W1 = wc := ⟨_, rfl⟩
          have HB1 : Hid (Below w.heap.size w W1 ∧ Heard w.heap.size w.heap.size sz np ql qf M hv W1) := ⟨hbel, hH⟩
          clear hbel hH HB0 HQ htot t2 t3 W0
          obtain ⟨kk, hkk⟩ : ∃ kk : Nat, (kn : Int) % (sz : Int) = (kk : Int) := ⟨kn % sz, by omega⟩
          have r1 : (kk : Int) < (sz : Int) := by rw [← hkk]; exact Int.emod_lt_of_pos _ (by omega)
          have r0 : (0 : Int) ≤ (kk : Int) := by omega
          go_upto_if 110 with fail
          rw [hkk]
          clear hkk
          go_cut [21, 22, 23, 25, 26] from 110 to 136 (fun vk vp vm _ _ wx => ∃ ps mo, vm = .map mo ∧ Ph3 W1 (if hm then (List.range ni).map fi else []) ps mo vk vp wx)
          case first =>
            cases hm with
            | false =>
              go_wp2_with fail
              go_meet
              case rel => exact ⟨[], none, rfl, KSt.start _ _, Below.refl _ _, .inl ⟨rfl, rfl, rfl⟩, fun k hk => by simp at hk⟩
            | true =>
              have hmm := @run_makeMap Yba.prog
              have HS : Hid (Ph3 W1 [] [] (some W1.heap.size) (.slice none 0 0) (.slice none 0 0) (W1.alloc (.map #[] 0))) :=
                ⟨KSt.start _ _, (Below.refl _ _).alloc (Nat.le_refl _) _, .inr ⟨_, .map [], rfl, Nat.le_refl _, World.ownsMap_made W1 Yba.prog 72 ptrElem, DictL.empty⟩, fun k hk => by simp at hk⟩
              go_wp2_with fail
              clear hmm
              generalize W1.alloc (.map #[] 0) = W2 at HS ⊢
              go_loopw [21, 22, 114] (fun vk vp vi wr => ∃ (k : Nat) (ps : List Nat), k ≤ ni ∧ vi = .int .i64 k ∧ Ph3 W1 ((List.range k).map fi) ps (some W1.heap.size) vk vp wr) (fun _ _ vi _ => ni - (intOf vi).toNat)
              case atStart => exact ⟨0, [], Nat.zero_le _, rfl, HS.out⟩
              case round =>
                obtain ⟨k, ps, hk, rfl, hP⟩ := hrel
                have hk0 : (0 : Int) ≤ (k : Int) := by omega
                by_cases hkn : k < ni
                · have q1 : (k : Int) < (ni : Int) := by omega
                  have hI : IdsAt wr w.heap.size pi ni fi := H.out.init.kept (HB1.out.1.trans (hP.below.mono HB1.out.1.size)) (Nat.le_refl _)
                  obtain ⟨hwf, b, off, rfl, hb, hc1, hc2⟩ := hI k hkn
                  have e1 : (List.range (k + 1)).map fi = (List.range k).map fi ++ [fi k] := by simp [List.range_succ]
                  obtain ⟨wB, gk, ck', wC, gp, cp, wD, hrun, d1, d2, ha1, ha2, hP2⟩ := hP.step (by simp; omega) hwf
                  rw [← e1] at hP2
                  simp only [List.length_map, List.length_range] at ha1 ha2 hP2
                  have HP2 : Hid (Ph3 W1 ((List.range (k + 1)).map fi) (ps ++ [wr.heap.size + 1]) (some W1.heap.size) (.slice (some ⟨gk, 0, none⟩) (k + 1) ck') (.slice (some ⟨gp, 0, none⟩) (k + 1) cp) wD) := hP2
                  have HA1 := (show Hid _ from ha1)
                  have HA2 := (show Hid _ from ha2)
                  clear hP hP2 hI e1 ha1 ha2 hwf HS
                  simp only [idObj, copyObj] at hrun
                  generalize (fi k).1 = s at *
                  generalize (fi k).2 = n2 at *
                  go_wp2_with (first
                    | (at_builtin; refine wpList_append_run rfl (.tmp 128) (.tmp 130) 67 rfl _ _ _ _ rfl rfl HA1.out ?_)
                    | (at_builtin; refine wpList_append_run rfl (.tmp 132) (.tmp 134) 69 rfl _ _ _ _ rfl rfl HA2.out ?_))
                  go_roundw
                  case rel => go_light; exact ⟨k + 1, _, by omega, by go_num, HP2.out⟩
                  case measure => simp [intOf]; omega
                · have q1 : ¬ (k : Int) < (ni : Int) := by omega
                  have e : k = ni := by omega
                  rw [e] at hP
                  have HP := (show Hid _ from hP)
                  clear hP HS e
                  go_wp2_with fail
                  go_meet
                  case rel => exact ⟨ps, some W1.heap.size, rfl, by simpa using HP.out⟩
          case rest =>
            obtain ⟨ps0, mo, rfl, hP⟩ := hcut
            obtain ⟨ks0, hks0⟩ : ∃ ks0, (if hm then (List.range ni).map fi else []) = ks0 := ⟨_, rfl⟩
            have hl0 : ks0.length ≤ 4096 := by
              rw [← hks0]
              cases hm
              · simp
              · simp; omega
            rw [hks0] at hP
            obtain ⟨W3, rfl⟩ : ∃ W3 : World, W3 = wc := ⟨_, rfl⟩
            have HP3 := (show Hid _ from hP)
            have HP4 := (show Hid _ from Ph4.start hP nk)
            clear hP hks0
            have hmk := run_make69 nk (by omega) W3
            go_upto_block 6 with fail
            clear hmk
            obtain ⟨Gc, hGc⟩ : ∃ Gc, W3.heap.size = Gc := ⟨_, rfl⟩
            simp only [hGc] at HP4 ⊢
            generalize W3.alloc (.cells (madeCells #[.pointer none] nk) 73) = W4 at HP4 ⊢
            go_wp2_with fail
            go_loopw [21, 22, 142] (fun vk vp vi wr => ∃ (k : Nat) (ps1 : List Nat), k ≤ nk ∧ vi = .int .i64 k ∧ Ph4 W1 ks0 ps0 mo Gc nk ((List.range k).map fk) ps1 vk vp wr) (fun _ _ vi _ => nk - (intOf vi).toNat)
            case atStart => exact ⟨0, [], Nat.zero_le _, rfl, HP4.out⟩
            case round =>
              clear HP4 W4
              obtain ⟨k, ps1, hk, rfl, hP⟩ := hrel
              have hk0 : (0 : Int) ≤ (k : Int) := by omega
              by_cases hkn : k < nk
              · have q1 : (k : Int) < (nk : Int) := by omega
                have hI : IdsAt wr w.heap.size pk nk fk := H.out.copies.kept (HB1.out.1.trans (hP.below.mono HB1.out.1.size)) (Nat.le_refl _)
                obtain ⟨hwf, b, off, rfl, hb, hc1, hc2⟩ := hI k hkn
                have e1 : (List.range (k + 1)).map fk = (List.range k).map fk ++ [fk k] := by simp [List.range_succ]
                have g1 := hP.row.cell hkn
                have g2 := hP.row.frozen k
                have g3 := hP.row.lt
                obtain ⟨wA, hwA⟩ : ∃ wA, wA = ((wr.setCell ⟨Gc, k, none⟩ (.pointer (some ⟨wr.heap.size + 1, 0, none⟩))).alloc (idObj (fk k))).alloc (copyObj (fk k)) := ⟨_, rfl⟩
                obtain ⟨d1, d2, gk, ck', wC, gp, cp, wD, ha1, ha2, hP2⟩ := hP.step (wA := wA) (by simp; omega) hwf (by simpa using hwA)
                rw [← e1] at hP2
                simp only [List.length_map, List.length_range, List.length_append] at ha1 ha2 hP2 g1
                simp only [idObj, copyObj] at hwA
                have HWA := (show Hid _ from hwA)
                have HP2 := (show Hid _ from hP2)
                have HA1 := (show Hid _ from ha1)
                have HA2 := (show Hid _ from ha2)
                clear hP hP2 hI e1 ha1 ha2 hwf hwA
                have D1 := (show Hid _ from d1)
                have D2 := (show Hid _ from d2)
                clear d1 d2
                generalize (fk k).1 = s at *
                generalize (fk k).2 = n2 at *
                go_upto_region 36 with fail
                rw [← HWA.out]
                have d1 := D1.out
                have d2 := D2.out
                clear D1 D2 HWA g1 g2 g3 hc1 hc2
                go_wp2_with (first
                  | (at_builtin; refine wpList_append_run rfl (.tmp 158) (.tmp 160) 67 rfl _ _ _ _ rfl rfl HA1.out ?_)
                  | (at_builtin; refine wpList_append_run rfl (.tmp 162) (.tmp 164) 69 rfl _ _ _ _ rfl rfl HA2.out ?_))
                go_roundw
                case rel => go_light; exact ⟨k + 1, _, by omega, by go_num, HP2.out⟩
                case measure => simp [intOf]; omega
              · have q1 : ¬ (k : Int) < (nk : Int) := by omega
                have e : k = nk := by omega
                rw [e] at hP
                have HP := (show Hid _ from hP)
                clear hP
                go_upto_region 40 with fail
                generalize hWc : wr.alloc (.cells _ 89) = Wc
                have H5 := (show Hid _ from Ph5.mk' wr Wc w.heap.size sz mo hWc)
                have hsc : Wc.heap.size = wr.heap.size + 1 := by rw [← hWc]; simp
                have HSC := (show Hid _ from hsc)
                clear hWc hsc
                have cP := put_at Wc.heap.size 67 wr.heap.size (.pointer none) (Wc.alloc (.cells Yba.zeroCells149 149)) (member_cell Wc).1 (member_cell Wc).2
                go_wp2_with (first | (refine wpList_build149 rfl rfl ?_) | fail)
                refine cP.mono ?_
                rintro e w' ⟨rfl, rfl⟩
                clear cP
                generalize (Wc.alloc (.cells Yba.zeroCells149 149)).setCell ⟨Wc.heap.size, 67, none⟩ (.pointer (some ⟨wr.heap.size, 0, none⟩)) = Wp at H5 ⊢
                rw [HSC.out]
                clear HSC
                have hbp : Below w.heap.size w Wp := (HB1.out.1.trans (HP.out.below.mono HB1.out.1.size)).trans (H5.out.below.mono (by have := HP.out.below.size; have := HB1.out.1.size; omega))
                have cC := clone_ints pl nl cl (fun i => xs.getD i 0) Wp (by omega) (H.out.loss.kept hbp (Nat.le_refl _))
                have HBP := (show Hid _ from hbp)
                clear hbp
                go_upto_region 42 with fail
                go_cut [34] from 167 to 179 (fun v wx => ∃ pv cv, v = .slice pv nl cv ∧ wx.ownsRow Wp.heap.size 3 1 (.slice pv nl cv) nl ((List.range nl).map fun i => .int .i64 (xs.getD i 0)) ∧ Below Wp.heap.size Wp wx)
                case first =>
                  go_wp2_with fail
                  refine cC.mono ?_
                  rintro e Wl ⟨pv, cv, rfl, hrowl, hbl⟩
                  have HZ := (show Hid _ from And.intro hrowl hbl)
                  clear hrowl hbl cC
                  go_wp2_with fail
                  go_meet
                  case rel => exact ⟨pv, cv, rfl, HZ.out⟩
                case rest =>
                obtain ⟨pv, cv, rfl, hrowl, hbl⟩ := hcut
                obtain ⟨Wl, rfl⟩ : ∃ Wl : World, Wl = wc := ⟨_, rfl⟩
                have hPre := pre_of (kk := kk) HB1.out.2 HP.out H5.out hbl hrowl (by omega) (by omega) H.out.len (by omega) (by omega) (by simp) hl0
                have HL := (show Hid _ from And.intro hrowl hbl)
                have cH := heard_at _ Wl hPre
                simp only at cH
                clear hrowl hbl hPre cC
                go_wp2_with fail
                refine cH.mono ?_
                rintro e Wh ⟨⟨v, rfl⟩, rv, rc, bm, hPost⟩
                have HWL : Hid (w.heap.size ≤ Wl.heap.size) := Nat.le_trans HBP.out.size HL.out.2.size
                have hF := fin_of HB1.out.1 HB1.out.2 HP.out H5.out HL.out.2 HL.out.1 hM2 hM3 (by omega) hPost
                have HF := (show Hid _ from hF)
                have g67 := hF.m
                have g6 := hF.c6
                have gr := hF.r
                clear hPost cH hF HL HP H5 HBP HB1 HP3 hGc
                have cG := get_at _ _ _ _ g67
                go_wp2_with fail
                refine cG.mono ?_
                rintro e Wg ⟨rfl, rfl⟩
                clear cG
                go_upto_if 205 with fail
                clear g67 g6 gr
                go_cut [37] from 205 to 212 (fun v wx => v = .slice rv nl rc ∧ Below Wg.heap.size Wg wx)
                case first =>
                  by_cases hl0 : nl = 0
                  · have hl1 : ((nl : Int) == 0) = true := by simp [hl0]
                    rw [hl1]
                    clear hl1
                    have hx0 : xs = [] := List.eq_nil_of_length_eq_zero (by rw [H.out.len]; exact hl0)
                    have hnil := HF.out.nil.2 hx0
                    obtain ⟨rfl, rfl, rfl⟩ : rv = none ∧ nl = 0 ∧ rc = 0 := by simpa using hnil
                    clear hnil hl0 hx0
                    have hq : ∀ w, (binOp .neq 55 (.slice none 0 0) (.slice none 0 0)).run Yba.prog w = .ok (.bool false) w := fun w => by kernel_rfl
                    go_wp2_with fail
                    go_meet
                    case rel => exact ⟨rfl, Below.refl _ _⟩
                  · have hl1 : ((nl : Int) == 0) = false := by simp; omega
                    rw [hl1]
                    clear hl1
                    obtain ⟨b, off, rfl, hbl, _⟩ := H.out.loss 0 (by omega)
                    have hbg : b < Wg.heap.size := Nat.lt_of_lt_of_le hbl HF.out.below.size
                    have cS := csorted_at b off nl cl xs H.out.len (by omega) Wg (fun i hi => by
                      obtain ⟨b', off', e, hb', hc⟩ := H.out.loss i hi
                      cases e
                      exact (HF.out.below.cell (p := ⟨b, off + i, none⟩) hb').trans hc) hbg
                    go_wp2_with fail
                    refine cS.mono ?_
                    rintro e Ws ⟨rfl, hrs, hbs⟩
                    have hls : (xs.mergeSort (fun x y => decide (x ≤ y))).length = nl := by rw [List.length_mergeSort, H.out.len]
                    have cE := ceq_yes rv (some ⟨Wg.heap.size, 0, none⟩) nl rc nl (fun i => (xs.mergeSort (fun x y => decide (x ≤ y))).getD i 0) Ws (by omega) ((encZ_ints HF.out.srow hls).kept hbs (Nat.le_refl _)) (rowIs_ints hrs)
                    have HBS := (show Hid _ from hbs)
                    clear hrs hbs hls cS
                    go_wp2_with fail
                    refine cE.mono ?_
                    rintro e We ⟨rfl, q, rfl⟩
                    clear cE
                    go_wp2_with fail
                    go_meet
                    case rel => exact ⟨rfl, below_drewN HBS.out _⟩
                case rest =>
                  obtain ⟨rfl, hbx⟩ := hcut
                  have HBX := (show Hid _ from hbx)
                  clear hbx
                  go_upto_block 8 with fail
                  go_cut [38, 39] from 213 to 235 (fun _ _ wx => Below Wg.heap.size Wg wx)
                  case first =>
                    go_wp2_with fail
                    go_loopw [38] (fun vi wr => ∃ k : Nat, k ≤ sz ∧ vi = .int .i64 k ∧ Below Wg.heap.size Wg wr) (fun vi _ => sz - (intOf vi).toNat)
                    case atStart => exact ⟨0, Nat.zero_le _, rfl, HBX.out⟩
                    case round =>
                      clear HBX
                      obtain ⟨k5, hk5, rfl, hb5⟩ := hrel
                      have j0 : (0 : Int) ≤ (k5 : Int) := by omega
                      have HB5 := (show Hid _ from hb5)
                      clear hb5
                      by_cases hks : k5 < sz
                      · have j1 : (k5 : Int) < (sz : Int) := by omega
                        by_cases hkk5 : k5 = kk
                        · have j2 : (k5 : Int) = (kk : Int) := by omega
                          clear hkk5
                          go_wp2
                          go_roundw
                          case rel => go_light; exact ⟨k5 + 1, by omega, by go_num, HB5.out⟩
                          case measure => simp [intOf]; omega
                        · have j2 : ¬ (k5 : Int) = (kk : Int) := by omega
                          obtain ⟨p5, c5, hc5, hi5⟩ := HF.out.oth k5 hks hkk5
                          have hG5 : w.heap.size < Wg.heap.size := cell_lt hc5
                          have hc6 : wr.cell? ⟨w.heap.size, k5, none⟩ = some (.slice p5 (lenAt np ql k5) c5) := (HB5.out.cell (p := ⟨w.heap.size, k5, none⟩) hG5).trans hc5
                          have hi6 := hi5.kept HB5.out (Nat.le_refl _)
                          clear hc5 hi5 hG5
                          have hl2 : ((k5 : Int) == (kk : Int)) = false := by simp; omega
                          have HL2 := (show Hid _ from hl2)
                          clear hl2
                          by_cases hnp5 : k5 < np
                          · have j3 : (k5 : Int) < (np : Int) := by omega
                            have e5 : lenAt np ql k5 = ql k5 := by unfold lenAt; rw [if_pos hnp5]
                            rw [e5] at hc6 hi6
                            obtain ⟨b, off, rfl, hbb, hcc⟩ := H.out.prev k5 hnp5
                            have hbw : Below w.heap.size w wr := HF.out.below.trans (HB5.out.mono HF.out.below.size)
                            have hcp : wr.cell? ⟨b, off + k5, none⟩ = some (.slice (qp k5) (ql k5) (qc k5)) := (hbw.cell (p := ⟨b, off + k5, none⟩) hbb).trans hcc
                            have cE := ceq_yes p5 (qp k5) (ql k5) c5 (qc k5) (qf k5) wr (HQ2.out k5 (by omega)) hi6 ((H.out.rows k5 hnp5).kept hbw (Nat.le_refl _))
                            clear hi6 e5 hcc hbw hbb
                            generalize ql k5 = lq at hc6 hcp cE
                            generalize qp k5 = pq at hcp cE
                            generalize qc k5 = cq at hcp cE
                            go_upto_if 220 with fail
                            rw [HL2.out]
                            clear HL2
                            go_wp2_with fail
                            refine cE.mono ?_
                            rintro e We ⟨rfl, q, rfl⟩
                            clear cE
                            go_wp2
                            go_roundw
                            case rel => go_light; exact ⟨k5 + 1, by omega, by go_num, below_drewN HB5.out _⟩
                            case measure => simp [intOf]; omega
                          · have j3 : ¬ (k5 : Int) < (np : Int) := by omega
                            have e5 : lenAt np ql k5 = 0 := by unfold lenAt; rw [if_neg hnp5]
                            rw [e5] at hc6 hi6
                            have cE := ceq_yes (B2 := 0) p5 none 0 c5 0 (qf k5) wr (by omega) hi6 (fun i hi => absurd hi (by omega))
                            clear hi6 e5
                            go_upto_if 220 with fail
                            rw [HL2.out]
                            clear HL2
                            go_wp2_with fail
                            refine cE.mono ?_
                            rintro e We ⟨rfl, q, rfl⟩
                            clear cE
                            go_wp2
                            go_roundw
                            case rel => go_light; exact ⟨k5 + 1, by omega, by go_num, below_drewN HB5.out _⟩
                            case measure => simp [intOf]; omega
                      · have j1 : ¬ (k5 : Int) < (sz : Int) := by omega
                        go_wp2_with fail
                        go_meet
                        case rel => exact HB5.out
                  case rest =>
                    have HB7 := (show Hid _ from hcut)
                    obtain ⟨W7, hW7⟩ : ∃ W7 : World, W7 = wc := ⟨_, rfl⟩
                    rw [← hW7] at HB7 ⊢
                    clear hcut HBX hW7
                    have g8 : W7.cell? ⟨wr.heap.size, 8, none⟩ = some (.map (some bm)) := (HB7.out.cell (p := ⟨wr.heap.size, 8, none⟩) (cell_lt HF.out.c8)).trans HF.out.c8
                    have hq : ∀ w, (binOp .eql 70 (.map (some bm)) (.map none)).run Yba.prog w = .ok (.bool false) w := fun w => run_eql_map_nil w 70 72 73 (some bm) Yba.underlying70
                    obtain ⟨n, HN, pk', ck', pp', cp', rfl, rfl⟩ := HF.out.st.forms
                    have hn : n ≤ 8192 := by rw [HN.out]; simp; omega
                    have n1 : (n : Int) ≤ 8192 := by omega
                    have n0 : (0 : Int) ≤ (n : Int) := by omega
                    clear hn
                    obtain ⟨ks, hks⟩ : ∃ ks, ks0 ++ (List.range nk).map fk = ks := ⟨_, rfl⟩
                    rw [hks] at HF HN
                    clear hks
                    go_upto_block 10 with fail
                    clear g8 hq
                    go_cut [41, 42, 43, 44] from 249 to 285 (fun v41 _ _ _ wx => v41 = .int .i64 (nd ks : Nat) ∧ Below Wg.heap.size Wg wx)
                    case first =>
                      go_wp2_with fail
                      go_loopw [41, 42] (fun vd vi wr => ∃ i d : Nat, i ≤ n ∧ vi = .int .i64 i ∧ vd = .int .i64 d ∧ d + nd (ks.drop i) = nd ks ∧ Below Wg.heap.size Wg wr) (fun _ vi _ => n - (intOf vi).toNat)
                      case atStart => exact ⟨0, 0, Nat.zero_le _, rfl, rfl, by simp, HB7.out⟩
                      case round =>
                        clear HB7
                        obtain ⟨i, d, hi, rfl, rfl, hd, hb6⟩ := hrel
                        have i0 : (0 : Int) ≤ (i : Int) := by omega
                        have d0 : (0 : Int) ≤ (d : Int) := by omega
                        have d1 : (d : Int) ≤ 8192 := by have := nd_le ks; have := HN.out; omega
                        have HD := (show Hid _ from hd)
                        have HB6 := (show Hid _ from hb6)
                        clear hd hb6
                        by_cases hin : i < n
                        · have i1 : (i : Int) < (n : Int) := by omega
                          obtain ⟨g, gp, rfl, rfl⟩ := HF.out.st.some_at HN.out (by omega)
                          obtain ⟨k, hk⟩ : ∃ k, ks[i]? = some k := ⟨_, List.getElem?_eq_getElem (by rw [← HN.out]; exact hin)⟩
                          have HK := (show Hid _ from hk)
                          clear hk
                          go_upto_block 12 with fail
                          go_cut [43, 44] from 257 to 271 (fun v43 _ wx => ∃ bl : Bool, v43 = .bool bl ∧ (bl = true ↔ k ∉ ks.drop (i + 1)) ∧ Below Wg.heap.size Wg wx)
                          case first =>
                            go_wp2_with fail
                            go_loopw [43, 44] (fun v43 vj wr => ∃ j : Nat, i < j ∧ j ≤ n ∧ vj = .int .i64 j ∧ v43 = .bool true ∧ (∀ l, i < l → l < j → ks[l]? ≠ some k) ∧ Below Wg.heap.size Wg wr) (fun _ vj _ => n - (intOf vj).toNat)
                            case atStart => exact ⟨i + 1, by omega, by omega, by go_num, rfl, fun l h1 h2 => by omega, HB6.out⟩
                            case round =>
                              clear HB6
                              obtain ⟨j, hij, hjn, rfl, rfl, hno, hb7⟩ := hrel
                              have j0 : (0 : Int) ≤ (j : Int) := by omega
                              have HB7 := (show Hid _ from hb7)
                              have HNO := (show Hid _ from hno)
                              clear hb7 hno
                              by_cases hj : j < n
                              · have j1 : (j : Int) < (n : Int) := by omega
                                obtain ⟨kj, hkj⟩ : ∃ kj, ks[j]? = some kj := ⟨_, List.getElem?_eq_getElem (by rw [← HN.out]; exact hj)⟩
                                obtain ⟨x1, x2⟩ := HF.out.st.key_in HN.out HB7.out HK.out
                                obtain ⟨x3, x4⟩ := HF.out.st.key_in HN.out HB7.out hkj
                                have hq : ∀ w, (binOp .eql 72 (.agg #[.int .i64 kj.1, .int .u64 kj.2]) (.agg #[.int .i64 k.1, .int .u64 k.2])).run Yba.prog w = .ok (.bool (decide (kj = k))) w := fun w => run_eql72 kj k w
                                have HKJ := (show Hid _ from hkj)
                                clear hkj
                                by_cases e : kj = k
                                · have HE := (show Hid _ from e)
                                  simp only [e, decide_true] at hq
                                  rw [e] at x3 x4
                                  clear e
                                  go_wp2_with fail
                                  go_quiet (fail)
                                  go_wp2_with fail
                                  go_meet
                                  case rel => exact ⟨false, rfl, by simp only [Bool.false_eq_true, false_iff, Classical.not_not]; exact mem_drop.2 ⟨j, hij, by rw [HKJ.out, HE.out]⟩, below_drewN HB7.out _⟩
                                · have HE := (show Hid _ from e)
                                  simp only [e, decide_false] at hq
                                  clear e
                                  go_wp2_with fail
                                  go_quiet (fail)
                                  go_wp2
                                  go_roundw
                                  case rel =>
                                    go_light
                                    refine ⟨j + 1, by omega, by omega, by go_num, rfl, fun l h1 h2 => ?_, below_drewN HB7.out _⟩
                                    by_cases el : l = j
                                    · subst el
                                      rw [HKJ.out]
                                      exact fun e => HE.out (by cases e; rfl)
                                    · exact HNO.out l h1 (by omega)
                                  case measure => simp [intOf]; omega
                              · have j1 : ¬ (j : Int) < (n : Int) := by omega
                                go_wp2_with fail
                                go_meet
                                case rel =>
                                  refine ⟨true, rfl, ?_, HB7.out⟩
                                  simp only [true_iff]
                                  intro hmem
                                  obtain ⟨l, h1, h2⟩ := mem_drop.1 hmem
                                  have := (List.getElem?_eq_some_iff.1 h2).1
                                  have := HN.out
                                  exact HNO.out l h1 (by omega) h2
                          case rest =>
                            obtain ⟨bl, rfl, hbl, hb8⟩ := hcut
                            have HB8 := (show Hid _ from hb8)
                            clear hb8 HB6
                            obtain ⟨W8, hW8⟩ : ∃ W8 : World, W8 = wc := ⟨_, rfl⟩
                            rw [← hW8] at HB8 ⊢
                            clear hW8
                            have e8 := nd_drop HK.out
                            cases bl with
                            | false =>
                              have hmem : k ∈ ks.drop (i + 1) := by simpa using hbl
                              rw [if_pos hmem] at e8
                              have E8 := (show Hid _ from e8)
                              clear e8 hbl hmem
                              go_wp2
                              go_roundw
                              case rel => go_light; exact ⟨i + 1, d, by omega, by go_num, rfl, by have := HD.out; have := E8.out; omega, HB8.out⟩
                              case measure => simp [intOf]; omega
                            | true =>
                              have hmem : k ∉ ks.drop (i + 1) := hbl.1 rfl
                              rw [if_neg hmem] at e8
                              have E8 := (show Hid _ from e8)
                              obtain ⟨x1, x2⟩ := HF.out.st.key_in HN.out HB8.out HK.out
                              obtain ⟨b, hbp⟩ : ∃ b, (ps0 ++ ps1)[i]? = some b := ⟨_, List.getElem?_eq_getElem (by rw [HF.out.st.len, ← HN.out]; exact hin)⟩
                              have x3 := HF.out.st.ptr_in HN.out HB8.out hbp
                              obtain ⟨D, nD, hmD, hDL⟩ := HF.out.map
                              have hlook := look_at hmD hDL HB8.out HK.out hbp (HF.out.wf k (List.mem_of_getElem? HK.out)) hmem
                              have hneq := fun w => run_neq_same73 w ⟨b, 0, none⟩
                              clear e8 hbl hmem hmD hDL hbp
                              go_wp2_with fail
                              go_quiet (fail)
                              go_wp2
                              go_roundw
                              case rel => go_light; exact ⟨i + 1, d + 1, by omega, by go_num, by go_num, by have := HD.out; have := E8.out; omega, below_drewN HB8.out _⟩
                              case measure => simp [intOf]; omega
                        · have i1 : ¬ (i : Int) < (n : Int) := by omega
                          have hdd : d = nd ks := by
                            have h1 := HD.out
                            rw [List.drop_of_length_le (by have := HN.out; omega)] at h1
                            simpa [nd] using h1
                          have HDD := (show Hid _ from hdd)
                          clear hdd
                          go_wp2_with fail
                          go_meet
                          case rel => exact ⟨by rw [HDD.out], HB6.out⟩
                    case rest =>
                      obtain ⟨rfl, hb9⟩ := hcut
                      have HB9 := (show Hid _ from hb9)
                      obtain ⟨W9, hW9⟩ : ∃ W9 : World, W9 = wc := ⟨_, rfl⟩
                      rw [← hW9] at HB9 ⊢
                      clear hb9 HB7 hW9
                      obtain ⟨D, nD, hmD, hDL⟩ := HF.out.map
                      have hlen := fun ty => len_at hmD hDL HB9.out ty
                      clear hmD hDL
                      go_upto_if 289 with fail
                      clear hlen
                      go_upto_block 14 with fail
                      go_cut [45, 46] from 292 to 327 (fun _ _ wx => Below Wg.heap.size Wg wx)
                      case first =>
                        go_wp2_with fail
                        go_loopw [292] (fun vi wr => ∃ i : Nat, i ≤ nk ∧ vi = .int .i64 i ∧ Below Wg.heap.size Wg wr) (fun vi _ => nk - (intOf vi).toNat)
                        case atStart => exact ⟨0, Nat.zero_le _, rfl, HB9.out⟩
                        case round =>
                          clear HB9
                          obtain ⟨i, hi, rfl, hb9⟩ := hrel
                          have i0 : (0 : Int) ≤ (i : Int) := by omega
                          have HB9 := (show Hid _ from hb9)
                          clear hb9
                          by_cases hin : i < nk
                          · have i1 : (i : Int) < (nk : Int) := by omega
                            obtain ⟨hwf, b, off, rfl, hbb, hc1, hc2⟩ := (H.out.copies.kept (HF.out.below.trans (HB9.out.mono HF.out.below.size)) (Nat.le_refl _)) i hin
                            obtain ⟨bq, y1, y2, y3⟩ := HF.out.copy_at (HB9.out.alloc HB9.out.size (idObj (fk i))) hin
                            have y4 := World.alloc_heap_new wr (idObj (fk i))
                            have y5 : (wr.alloc (idObj (fk i))).cell? ⟨wr.heap.size, 0, none⟩ = some (.int .i64 (fk i).1) := by simp only [World.cell?, y4]; simp
                            have y6 : (wr.alloc (idObj (fk i))).cell? ⟨wr.heap.size, 1, none⟩ = some (.int .u64 (fk i).2) := by simp only [World.cell?, y4]; simp
                            have HY := (show Hid _ from And.intro y1 (And.intro y2 (And.intro y3 (And.intro y5 y6))))
                            have HX : Hid (Below Wg.heap.size Wg (wr.alloc (idObj (fk i)))) := HB9.out.alloc HB9.out.size _
                            clear y1 y2 y3 y4 y5 y6 hwf hbb
                            simp only [idObj] at HY HX
                            generalize (fk i).1 = s at *
                            generalize (fk i).2 = t at *
                            go_upto_region 90 with fail
                            clear hc1 hc2
                            generalize wr.alloc _ = wA at HY HX ⊢
                            obtain ⟨y1, y2, y3, y5, y6⟩ := HY.out
                            clear HY
                            have hq73 := fun w => run_eql_nil73 w ⟨bq, 0, none⟩
                            go_quiet (fail)
                            clear y1 y2 y3 y5 y6 hq73
                            go_wp2
                            go_roundw
                            case rel => go_light; exact ⟨i + 1, by omega, by go_num, below_drewN HX.out _⟩
                            case measure => simp [intOf]; omega
                          · have i1 : ¬ (i : Int) < (nk : Int) := by omega
                            go_wp2_with fail
                            go_meet
                            case rel => exact HB9.out
                      case rest =>
                        have HB10 := (show Hid _ from hcut)
                        obtain ⟨W10, hW10⟩ : ∃ W10 : World, W10 = wc := ⟨_, rfl⟩
                        rw [← hW10] at HB10 ⊢
                        clear hcut HB9 hW10
                        have hlc := HF.out.lc_ints.kept_lt HB10.out
                        have hls := H.out.loss.kept (HF.out.below.trans (HB10.out.mono HF.out.below.size)) HWL.out
                        have cE := ceq_yes pv pl nl cv cl (fun i => xs.getD i 0) W10 (by omega) hlc hls
                        have hrr := HF.out.rcells HB10.out
                        have HR := (show Hid _ from And.intro hlc (And.intro hls hrr))
                        clear hlc hls hrr
                        go_wp2_with fail
                        refine cE.mono ?_
                        rintro e We ⟨rfl, q, hWe⟩
                        clear cE
                        have hHe : We.heap = W10.heap := by rw [hWe]; simp
                        have HR2 : Hid (IntsAt We Wl.heap.size pv nl (fun i => xs.getD i 0) ∧ IntsAt We Wl.heap.size pl nl (fun i => xs.getD i 0) ∧ RCells We Wl.heap.size rv nl ∧ Below w.heap.size w We) := by
                          rw [hWe]
                          exact ⟨HR.out.1, HR.out.2.1, HR.out.2.2, below_drewN (HF.out.below.trans (HB10.out.mono HF.out.below.size)) _⟩
                        clear hHe hWe HR HB10
                        go_upto_block 16 with fail
                        go_wp2_with fail
                        go_loopw [47] (fun vi wr => ∃ i : Nat, i ≤ nl ∧ vi = .int .i64 i ∧ Below Wl.heap.size We wr ∧ RCells wr Wl.heap.size rv nl) (fun vi _ => nl - (intOf vi).toNat)
                        case atStart => exact ⟨0, Nat.zero_le _, rfl, Below.refl _ _, HR2.out.2.2.1⟩
                        case round =>
                          obtain ⟨i, hi, rfl, hb11, hrc⟩ := hrel
                          have i0 : (0 : Int) ≤ (i : Int) := by omega
                          have HB11 := (show Hid _ from And.intro hb11 hrc)
                          clear hb11 hrc
                          by_cases hin : i < nl
                          · have i1 : (i : Int) < (nl : Int) := by omega
                            obtain ⟨g, rfl, hg, ⟨x, hx⟩, hf⟩ := HB11.out.2 i hin
                            have HG := (show Hid _ from hg)
                            clear hg
                            go_wp2
                            go_roundw
                            case rel => go_light; exact ⟨i + 1, by omega, by go_num, HB11.out.1.setCell HG.out _, HB11.out.2.step i _⟩
                            case measure => simp [intOf]; omega
                          · have i1 : ¬ (i : Int) < (nl : Int) := by omega
                            have cE := ceq_yes pv pl nl cv cl (fun i => xs.getD i 0) wr (by omega) (HR2.out.1.kept HB11.out.1 (Nat.le_refl _)) (HR2.out.2.1.kept HB11.out.1 (Nat.le_refl _))
                            have HZ : Hid (Below w.heap.size w wr) := HR2.out.2.2.2.trans (HB11.out.1.mono HWL.out)
                            go_wp2_with fail
                            refine cE.mono ?_
                            rintro e Wf ⟨rfl, q2, rfl⟩
                            go_wp2
                            go_ret
                            exact ⟨rfl, below_drewN HZ.out _⟩
end Go.Proofs.Ybulkdsyu
