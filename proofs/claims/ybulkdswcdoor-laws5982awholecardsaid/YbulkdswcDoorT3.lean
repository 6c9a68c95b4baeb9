import Derived.Test.YbulkdswcDoorT2
namespace Go.Proofs.YbulkdswcDoor
open Go Ieee Go.RowKit Go.Sort

/-- H k > wd, as Go says it. -/
def longer (H : Nat → Nat) (wd k : Nat) : Bool := D.order (H k) wd == some .gt

/-- Where the cluster ends, going up over the long steps. -/
def topL (n : Nat) : List Nat → Nat
  | [] => n - 1
  | [e] => if modeF n ((n : Int) - 1 - e) then n - 1 else e
  | e :: k :: r => if modeF n ((k : Int) - e) then topL n (k :: r) else e

/-- The long steps from up on. -/
def stepsUp (H : Nat → Nat) (wd up : Nat) (g : List Nat) : List Nat := g.filter fun k => decide (up ≤ k) && longer H wd k

/-- The box of a clusters, and all else that lay. -/
structure Bx (W : World) (B bx sb so n cs lo up hr : Nat) (gp : Option Addr) (gn gc : Nat) (s : Array Nat) (g : List Nat) (wr : World) : Prop where
  below : Below B W wr
  bl : bx < B
  le : B ≤ wr.heap.size
  m : CM wr B sb so s gp g
  c0 : wr.cell? ⟨bx, 0, none⟩ = some (.slice (some ⟨sb, so, none⟩) n cs)
  c1 : wr.cell? ⟨bx, 1, none⟩ = some (.int .i64 lo)
  c2 : wr.cell? ⟨bx, 2, none⟩ = some (.int .i64 up)
  c3 : wr.cell? ⟨bx, 3, none⟩ = some (.float .f64 hr)
  c4 : wr.cell? ⟨bx, 4, none⟩ = some (.slice gp gn gc)

section
variable {W wr w1 : World} {B bx sb so n cs lo up hr : Nat} {gp : Option Addr} {gn gc : Nat} {s : Array Nat} {g : List Nat}

theorem Bx.next (h : Bx W B bx sb so n cs lo up hr gp gn gc s g wr) (hb : Below wr.heap.size wr w1) : Bx W B bx sb so n cs lo up hr gp gn gc s g w1 := by
  have hB := hb.mono h.le
  exact ⟨h.below.trans hB, h.bl, Nat.le_trans h.le hb.size, h.m.kept hB (Nat.le_refl _), (hB.cell (p := ⟨bx, 0, none⟩) h.bl).trans h.c0, (hB.cell (p := ⟨bx, 1, none⟩) h.bl).trans h.c1, (hB.cell (p := ⟨bx, 2, none⟩) h.bl).trans h.c2, (hB.cell (p := ⟨bx, 3, none⟩) h.bl).trans h.c3, (hB.cell (p := ⟨bx, 4, none⟩) h.bl).trans h.c4⟩

end

theorem bx_start {w : World} {B0 sb so : Nat} {gp : Option Addr} {s : Array Nat} {g : List Nat} (hM : CM w B0 sb so s gp g) (hB : B0 ≤ w.heap.size) (n cs lo up hr gn gc : Nat) :
    Bx (w.alloc (.cells #[.slice (some ⟨sb, so, none⟩) n cs, .int .i64 lo, .int .i64 up, .float .f64 hr, .slice gp gn gc] 30)) (w.heap.size + 1) w.heap.size sb so n cs lo up hr gp gn gc s g (w.alloc (.cells #[.slice (some ⟨sb, so, none⟩) n cs, .int .i64 lo, .int .i64 up, .float .f64 hr, .slice gp gn gc] 30)) ∧
    Below w.heap.size w (w.alloc (.cells #[.slice (some ⟨sb, so, none⟩) n cs, .int .i64 lo, .int .i64 up, .float .f64 hr, .slice gp gn gc] 30)) := by
  have hn2 : (w.alloc (.cells #[.slice (some ⟨sb, so, none⟩) n cs, .int .i64 lo, .int .i64 up, .float .f64 hr, .slice gp gn gc] 30)).heap[w.heap.size]? = some (.cells #[.slice (some ⟨sb, so, none⟩) n cs, .int .i64 lo, .int .i64 up, .float .f64 hr, .slice gp gn gc] 30) := by unfold World.alloc; simp
  have hs : (w.alloc (.cells #[.slice (some ⟨sb, so, none⟩) n cs, .int .i64 lo, .int .i64 up, .float .f64 hr, .slice gp gn gc] 30)).heap.size = w.heap.size + 1 := by simp
  have hb : Below w.heap.size w (w.alloc (.cells #[.slice (some ⟨sb, so, none⟩) n cs, .int .i64 lo, .int .i64 up, .float .f64 hr, .slice gp gn gc] 30)) := (Below.refl _ w).alloc (Nat.le_refl _) _
  refine ⟨⟨Below.refl _ _, by omega, by omega, (hM.kept (hb.mono hB) (by omega)), ?_, ?_, ?_, ?_, ?_⟩, hb⟩ <;> (simp only [World.cell?, hn2]; simp)

theorem topL_cons (n e : Nat) (r : List Nat) : topL n (e :: r) = match r with
    | [] => if modeF n ((n : Int) - 1 - e) then n - 1 else e
    | k :: r => if modeF n ((k : Int) - e) then topL n (k :: r) else e := by
  cases r <;> rfl

theorem stepsUp_drop {H : Nat → Nat} {wd up i k : Nat} {g : List Nat} (h : g[i]? = some k) : stepsUp H wd up (g.drop i) = if (decide (up ≤ k) && longer H wd k) = true then k :: stepsUp H wd up (g.drop (i + 1)) else stepsUp H wd up (g.drop (i + 1)) := by
  obtain ⟨hlt, e⟩ := List.getElem?_eq_some_iff.1 h
  rw [List.drop_eq_getElem_cons hlt, e, stepsUp, List.filter_cons]
  rfl

set_option maxHeartbeats 8000000 in
set_option maxRecDepth 100000 in
theorem top_f {s : Array Nat} {h2 H : Nat → Nat} (F : Fl s h2 H) {w : World} {B0 sb so cs lo up hr gn gc d a wd : Nat} {gp : Option Addr} {g : List Nat} (hM : CM w B0 sb so s gp g) (hB : B0 ≤ w.heap.size) (hn : s.size ≤ 1048576) (hn0 : 0 < s.size) (hgn : gn = g.length) (hgl : g.length ≤ 1048576)
    (hg : ∀ k ∈ g, k + 1 < s.size) (hcmp : ∀ k ∈ g, D.order (H k) wd ≠ none) (hd1 : D.mul two d = some a) (hd2 : D.mul a hr = some wd) (hup : up ≤ 1048576) :
    Calls Ybad.prog 24 #[clv sb so s.size cs lo up hr gp gn gc, .float .f64 d] w fun e w' => e = .returned (.int .i64 (topL s.size (stepsUp H wd up g) : Nat)) ∧ Below w.heap.size w w' := by
  obtain ⟨hb0, hbw⟩ := bx_start hM hB s.size cs lo up hr gn gc
  have HH := (show Hid _ from And.intro hg (And.intro hcmp hgn))
  have n1 : (s.size : Int) ≤ 1048576 := by omega
  have n0 : (1 : Int) ≤ (s.size : Int) := by omega
  have g1 : (gn : Int) ≤ 1048576 := by omega
  have g0 : (0 : Int) ≤ (gn : Int) := by omega
  have u0 : (0 : Int) ≤ (up : Int) := by omega
  have hgl2 : gn ≤ 1048576 := by omega
  clear hM hg hcmp hgn hgl
  go_enter Ybad.func24, Ybad.ntmps24
  go_upto_region 1 with fail
  generalize w.alloc _ = W at *
  have HB0 := (show Hid _ from hb0)
  have HBW := (show Hid _ from hbw)
  have c0 := hb0.c0
  have c1 := hb0.c1
  have c2 := hb0.c2
  have c3 := hb0.c3
  have c4 := hb0.c4
  have cW := widening_f (sb := sb) (so := so) (n := s.size) (cs := cs) (lo := lo) (up := up) (gn := gn) (gc := gc) (gp := gp) hd1 hd2 W
  clear hb0 hbw hd1 hd2
  go_wp2_with fail
  refine cW.mono ?_
  rintro e W2 ⟨rfl, hb2⟩
  have hb3 := HB0.out.next hb2
  clear cW c0 c1 c2 c3 c4 hb2
  have HB3 := (show Hid _ from hb3)
  have c4 := hb3.c4
  clear hb3 HB0
  go_wp2_with fail
  clear c4
  go_loopw [6, 15] (fun v6 v15 wr => ∃ (i : Nat) (z : Int), v6 = .int .i64 z ∧ v15 = .int .i64 i ∧ i ≤ gn ∧ Bx W (w.heap.size + 1) w.heap.size sb so s.size cs lo up hr gp gn gc s g wr ∧
      ((z = -1 ∧ topL s.size (stepsUp H wd up g) = topL s.size (stepsUp H wd up (g.drop i))) ∨ (∃ e : Nat, z = e ∧ e < s.size ∧ topL s.size (stepsUp H wd up g) = topL s.size (e :: stepsUp H wd up (g.drop i))))) (fun _ v15 _ => gn - (intOf v15).toNat)
  case atStart => exact ⟨0, -1, rfl, rfl, Nat.zero_le _, HB3.out, .inl ⟨rfl, rfl⟩⟩
  case round =>
    clear HB3
    obtain ⟨i, z, rfl, rfl, hi, hbx, hz⟩ := hrel
    have HX := (show Hid _ from And.intro hbx hz)
    have i0 : (0 : Int) ≤ (i : Int) := by omega
    by_cases hin : i < gn
    · have i1 : (i : Int) < (gn : Int) := by omega
      obtain ⟨k, hk⟩ : ∃ k, g[i]? = some k := ⟨_, List.getElem?_eq_getElem (by have := HH.out.2.2; omega)⟩
      have hkg : k ∈ g := List.mem_of_getElem? hk
      have hkn := HH.out.1 k hkg
      have hko := HH.out.2.1 k hkg
      obtain ⟨b, off, rfl, _, cg⟩ := hbx.m.gc i k hk
      have k0 : (0 : Int) ≤ (k : Int) := by omega
      have c0 := hbx.c0
      have c1 := hbx.c1
      have c2 := hbx.c2
      have c3 := hbx.c3
      have c4 := hbx.c4
      have HD := (show Hid _ from stepsUp_drop (H := H) (wd := wd) (up := up) hk)
      clear hk hkg hz
      by_cases hku : k < up
      · have u1 : (k : Int) < (up : Int) := by omega
        have HD2 : Hid (stepsUp H wd up (g.drop i) = stepsUp H wd up (g.drop (i + 1))) := by
          show _ = _
          rw [HD.out, decide_eq_false (show ¬ up ≤ k by omega)]; rfl
        clear HD hko hbx
        go_wp2
        go_roundw
        case rel =>
          go_light
          refine ⟨i + 1, z, rfl, by go_num, by omega, HX.out.1, ?_⟩
          rw [← HD2.out]; exact HX.out.2
        case measure => simp [intOf]; omega
      · have u1 : ¬ (k : Int) < (up : Int) := by omega
        have cH := halfStep_f (cs := cs) (lo := lo) (up := up) (hr := hr) (gn := gn) (gc := gc) F hbx.m hbx.le hkn hn
        rw [decide_eq_true (show up ≤ k by omega), Bool.true_and] at HD
        unfold longer at HD
        clear hbx
        generalize H k = r at *
        cases ho : D.order r wd with
        | none => exact absurd ho hko
        | some o =>
        cases o with
        | gt =>
          have ho2 : FloatKind.f64.format.order r wd = some .gt := ho
          rw [ho, if_pos (by decide)] at HD
          clear ho hko
          go_wp2_with fail
          refine cH.mono ?_
          rintro e W3 ⟨rfl, hb3⟩
          have hbx3 := HX.out.1.next hb3
          have HX3 := (show Hid _ from And.intro hbx3 HX.out.2)
          clear cH c0 c1 c2 c3 c4 hb3 cg
          have c0 := hbx3.c0
          have c1 := hbx3.c1
          have c2 := hbx3.c2
          have c3 := hbx3.c3
          have c4 := hbx3.c4
          clear HX
          rcases HX3.out.2 with ⟨hz1, hz2⟩ | ⟨e, hz1, he, hz2⟩
          · subst hz1
            have HZ : Hid (topL s.size (stepsUp H wd up g) = topL s.size (k :: stepsUp H wd up (g.drop (i + 1)))) := by show _ = _; rw [hz2, HD.out]
            clear hz2 hbx3
            go_wp2
            go_roundw
            case rel =>
              go_light
              exact ⟨i + 1, (k : Int), rfl, by go_num, by omega, HX3.out.1, .inr ⟨k, rfl, by omega, HZ.out⟩⟩
            case measure => simp [intOf]; omega
          · subst hz1
            have e0 : (0 : Int) ≤ (e : Int) := by omega
            have HZ : Hid (topL s.size (stepsUp H wd up g) = if modeF s.size ((k : Int) - e) then topL s.size (k :: stepsUp H wd up (g.drop (i + 1))) else e) := by show _ = _; rw [hz2, HD.out, topL_cons]
            have cM := isMode_f (sb := sb) (so := so) (n := s.size) (cs := cs) (lo := lo) (up := up) (hr := hr) (gn := gn) (gc := gc) (gp := some ⟨b, off, none⟩) ((k : Int) - (e : Int)) W3
            have hw : IntKind.i64.wrap ((k : Int) - (e : Int)) = (k : Int) - (e : Int) := wrapI (by omega) (by omega)
            clear hz2 hbx3
            cases hm : modeF s.size ((k : Int) - (e : Int))
            · rw [hm] at cM
              go_wp2_with fail
              refine cM.mono ?_
              rintro e2 W4 ⟨rfl, hb4⟩
              have HF : Hid (Below w.heap.size w W4 ∧ topL s.size (stepsUp H wd up g) = e) := ⟨HBW.out.trans ((HX3.out.1.next hb4).below.mono (by omega)), by rw [HZ.out, hm]; rfl⟩
              clear hb4 cM
              go_wp2
              go_ret
              exact ⟨by rw [HF.out.2]; rfl, HF.out.1⟩
            · rw [hm] at cM
              go_wp2_with fail
              refine cM.mono ?_
              rintro e2 W4 ⟨rfl, hb4⟩
              have HB4 : Hid (Bx W (w.heap.size + 1) w.heap.size sb so s.size cs lo up hr (some ⟨b, off, none⟩) gn gc s g W4) := HX3.out.1.next hb4
              clear hb4 cM
              go_wp2
              go_roundw
              case rel =>
                go_light
                exact ⟨i + 1, (k : Int), rfl, by go_num, by omega, HB4.out, .inr ⟨k, rfl, by omega, by rw [HZ.out, hm]; rfl⟩⟩
              case measure => simp [intOf]; omega
        | lt =>
          have ho2 : FloatKind.f64.format.order r wd = some .lt := ho
          have HD2 : Hid (stepsUp H wd up (g.drop i) = stepsUp H wd up (g.drop (i + 1))) := by
            show _ = _
            rw [HD.out, ho, if_neg (by decide)]
          clear ho hko HD
          go_wp2_with fail
          refine cH.mono ?_
          rintro e W3 ⟨rfl, hb3⟩
          have HX3 : Hid (Bx W (w.heap.size + 1) w.heap.size sb so s.size cs lo up hr (some ⟨b, off, none⟩) gn gc s g W3) := HX.out.1.next hb3
          clear cH c0 c1 c2 c3 c4 hb3 cg
          go_wp2
          go_roundw
          case rel =>
            go_light
            refine ⟨i + 1, z, rfl, by go_num, by omega, HX3.out, ?_⟩
            rw [← HD2.out]; exact HX.out.2
          case measure => simp [intOf]; omega
        | eq =>
          have ho2 : FloatKind.f64.format.order r wd = some .eq := ho
          have HD2 : Hid (stepsUp H wd up (g.drop i) = stepsUp H wd up (g.drop (i + 1))) := by
            show _ = _
            rw [HD.out, ho, if_neg (by decide)]
          clear ho hko HD
          go_wp2_with fail
          refine cH.mono ?_
          rintro e W3 ⟨rfl, hb3⟩
          have HX3 : Hid (Bx W (w.heap.size + 1) w.heap.size sb so s.size cs lo up hr (some ⟨b, off, none⟩) gn gc s g W3) := HX.out.1.next hb3
          clear cH c0 c1 c2 c3 c4 hb3 cg
          go_wp2
          go_roundw
          case rel =>
            go_light
            refine ⟨i + 1, z, rfl, by go_num, by omega, HX3.out, ?_⟩
            rw [← HD2.out]; exact HX.out.2
          case measure => simp [intOf]; omega
    · have i1 : ¬ (i : Int) < (gn : Int) := by omega
      have HN : Hid (stepsUp H wd up (g.drop i) = []) := by
        show _ = _
        rw [List.drop_of_length_le (by have := HH.out.2.2; omega)]; rfl
      have c0 := hbx.c0
      have c1 := hbx.c1
      have c2 := hbx.c2
      have c3 := hbx.c3
      have c4 := hbx.c4
      have hw1 : IntKind.i64.wrap ((s.size : Int) - 1) = (s.size : Int) - 1 := wrapI (by omega) (by omega)
      have HE : Hid ((((s.size - 1 : Nat) : Nat) : Int) = (s.size : Int) - 1) := (show (((s.size - 1 : Nat) : Nat) : Int) = (s.size : Int) - 1 from by omega)
      clear hbx
      rcases hz with ⟨hz1, hz2⟩ | ⟨e, hz1, he, hz2⟩
      · subst hz1
        have HZ : Hid (topL s.size (stepsUp H wd up g) = s.size - 1) := by show _ = _; rw [hz2, HN.out]; rfl
        clear hz2
        go_wp2
        go_ret
        exact ⟨by rw [HZ.out, HE.out]; rfl, HBW.out.trans (HX.out.1.below.mono (by omega))⟩
      · subst hz1
        have e0 : (0 : Int) ≤ (e : Int) := by omega
        have HZ : Hid (topL s.size (stepsUp H wd up g) = if modeF s.size ((s.size : Int) - 1 - e) then s.size - 1 else e) := by show _ = _; rw [hz2, HN.out, topL_cons]
        have cM := isMode_f (sb := sb) (so := so) (n := s.size) (cs := cs) (lo := lo) (up := up) (hr := hr) (gn := gn) (gc := gc) (gp := gp) ((s.size : Int) - 1 - (e : Int)) wr
        have hw2 : IntKind.i64.wrap ((s.size : Int) - 1 - (e : Int)) = (s.size : Int) - 1 - (e : Int) := wrapI (by omega) (by omega)
        clear hz2
        cases hm : modeF s.size ((s.size : Int) - 1 - (e : Int))
        · rw [hm] at cM
          go_wp2_with fail
          refine cM.mono ?_
          rintro e2 W4 ⟨rfl, hb4⟩
          have HF : Hid (Below w.heap.size w W4 ∧ topL s.size (stepsUp H wd up g) = e) := ⟨HBW.out.trans ((HX.out.1.next hb4).below.mono (by omega)), by rw [HZ.out, hm]; rfl⟩
          clear hb4 cM
          go_wp2
          go_ret
          exact ⟨by rw [HF.out.2]; rfl, HF.out.1⟩
        · rw [hm] at cM
          go_wp2_with fail
          refine cM.mono ?_
          rintro e2 W4 ⟨rfl, hb4⟩
          have HF : Hid (Below w.heap.size w W4 ∧ topL s.size (stepsUp H wd up g) = s.size - 1) := ⟨HBW.out.trans ((HX.out.1.next hb4).below.mono (by omega)), by rw [HZ.out, hm]; rfl⟩
          have hb5 := HX.out.1.next hb4
          clear hb4 cM c0 c1 c2 c3 c4
          have c0 := hb5.c0
          clear hb5
          go_wp2
          go_ret
          exact ⟨by rw [HF.out.2, HE.out]; rfl, HF.out.1⟩
end Go.Proofs.YbulkdswcDoor
