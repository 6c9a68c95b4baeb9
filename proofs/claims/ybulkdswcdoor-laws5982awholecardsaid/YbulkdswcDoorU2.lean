import Derived.Test.YbulkdswcDoorU1
namespace Go.Proofs.YbulkdswcDoor
open Go Ieee Go.RowKit Go.Sort Go.Shelf

attribute [local go_sem] Oper.semAt_some
attribute [local go_sem] run_store_float

/-- The steps' numbers at the places. -/
def vals {g : List Nat} (l : List (GI g)) : List Nat := (ixs l).map fun j => g[j]?.getD 0
theorem vals_push {g : List Nat} (l : List (GI g)) (x : GI g) : vals (l ++ [x]) = vals l ++ [gval g x] := by
  unfold vals; rw [ixs_push, List.map_append]; rfl

theorem map_range' {g : List Nat} : ∀ (m t : Nat), t + m = g.length → (List.range' t m).map (fun j => g[j]?.getD 0) = g.drop t
  | 0, t, h => by rw [List.drop_of_length_le (by omega)]; rfl
  | m + 1, t, h => by
    rw [List.range'_succ, List.map_cons, map_range' m (t + 1) (by omega), List.drop_eq_getElem_cons (show t < g.length by omega), List.getElem?_eq_getElem (by omega)]
    rfl

theorem vals_part {g : List Nat} {pre : List (GI g)} {t : Nat} (ht : t ≤ g.length) (h : ixs pre = (List.range' t (g.length - t)).reverse) : vals pre = (g.drop t).reverse := by
  unfold vals
  rw [h, List.map_reverse, map_range' _ _ (by omega)]

theorem vals_all {g : List Nat} {pre : List (GI g)} (h : ixs pre = (List.range g.length).reverse) : vals pre = g.reverse := by
  have := vals_part (pre := pre) (Nat.zero_le g.length) (by rw [h, List.range_eq_range', Nat.sub_zero])
  rw [this, List.drop_zero]

/-- What the end means, behind the steps that came. -/
def Iv (n : Nat) (p : Nat → Bool) {g : List Nat} (pre : List (GI g)) (z : Int) : Prop :=
  (z = -1 ∧ ∀ rest, botL n ((vals pre ++ rest).filter p) = botL n (rest.filter p)) ∨ (∃ e : Nat, z = (e : Int) + 1 ∧ e < 1048576 ∧ ∀ rest, botL n ((vals pre ++ rest).filter p) = botL n (e :: rest.filter p))

theorem Iv.skip {n : Nat} {p : Nat → Bool} {g : List Nat} {pre : List (GI g)} {z : Int} {x : GI g} (h : Iv n p pre z) (hp : p (gval g x) = false) : Iv n p (pre ++ [x]) z := by
  have key : ∀ rest, (vals (pre ++ [x]) ++ rest).filter p = (vals pre ++ rest).filter p := fun rest => by
    rw [vals_push, List.append_assoc, List.filter_append, List.singleton_append, List.filter_cons, hp, if_neg (by decide), ← List.filter_append]
  rcases h with ⟨e, h⟩ | ⟨e, h1, h2, h⟩
  · exact .inl ⟨e, fun rest => by rw [key]; exact h rest⟩
  · exact .inr ⟨e, h1, h2, fun rest => by rw [key]; exact h rest⟩

theorem Iv.at {n : Nat} {p : Nat → Bool} {g : List Nat} {pre : List (GI g)} {x : GI g} {L : List Nat} (h : ∀ rest, botL n ((vals pre ++ rest).filter p) = botL n (L ++ rest.filter p)) (hp : p (gval g x) = true) (rest : List Nat) :
    botL n ((vals (pre ++ [x]) ++ rest).filter p) = botL n (L ++ gval g x :: rest.filter p) := by
  rw [vals_push, List.append_assoc, h, List.singleton_append, List.filter_cons, hp]; rfl

/-- The boxes. -/
def BS (w0 : World) (n0 bs wd : Nat) (z r : Int) (W : World) : Prop :=
  Below (n0 + 1) w0 W ∧ Boxed W (n0 + 1) 3 (.int .i64 r) ∧ Boxed W bs 23 (.float .f64 wd) ∧ Boxed W (bs + 1) 3 (.int .i64 z)

theorem BS.next {w0 : World} {n0 bs wd : Nat} {z r : Int} {W W' : World} (h : BS w0 n0 bs wd z r W) (hn : n0 + 1 ≤ W.heap.size) (hb : Below W.heap.size W W') : BS w0 n0 bs wd z r W' :=
  ⟨h.1.trans (hb.mono hn), (hb.block _ h.2.1.lt).trans h.2.1, (hb.block _ h.2.2.1.lt).trans h.2.2.1, (hb.block _ h.2.2.2.lt).trans h.2.2.2⟩

theorem BS.own {w0 : World} {n0 bs wd B : Nat} {z r : Int} {W W' : World} {row : Option Nat} (hn : n0 + 1 = w0.heap.size) (hB : n0 + 1 ≤ B) (h : BS w0 n0 bs wd z r W) (hg : W.grownBy W' row) (hr : ∀ k, row = some k → B ≤ k ∧ ∃ o : Obj, W.heap[k]? = some o ∧ o.isCells = false) : BS w0 n0 bs wd z r W' := by
  have key : ∀ {b : Nat} {t : TypeId} {v : Value}, Boxed W b t v → some b ≠ row := by
    rintro b t v hb e
    obtain ⟨_, o, h1, h2⟩ := hr b e.symm
    rw [show W.heap[b]? = _ from hb] at h1
    cases h1
    cases h2
  exact ⟨h.1.grown hg (by rw [hn]; exact h.1.size) (fun k e => Nat.le_trans hB (hr k e).1), h.2.1.kept hg (key h.2.1), h.2.2.1.kept hg (key h.2.2.1), h.2.2.2.kept hg (key h.2.2.2)⟩

theorem BS.setEnd {w0 : World} {n0 bs wd : Nat} {z r : Int} {W : World} (hbs : n0 + 2 ≤ bs) (h : BS w0 n0 bs wd z r W) (z' : Int) : BS w0 n0 bs wd z' r (W.setCell ⟨bs + 1, 0, none⟩ (.int .i64 z')) := by
  have hg : W.grownBy (W.setCell ⟨bs + 1, 0, none⟩ (.int .i64 z')) (some (bs + 1)) := grownBy_setCell' _ _ _
  exact ⟨h.1.setCell (p := ⟨bs + 1, 0, none⟩) (show n0 + 1 ≤ bs + 1 by omega) _, h.2.1.kept hg (by simp; omega), h.2.2.1.kept hg (by simp), h.2.2.2.set _⟩

theorem BS.setRes {w0 : World} {n0 bs wd : Nat} {z r : Int} {W : World} (hbs : n0 + 2 ≤ bs) (h : BS w0 n0 bs wd z r W) (r' : Int) : BS w0 n0 bs wd z r' (W.setCell ⟨n0 + 1, 0, none⟩ (.int .i64 r')) := by
  have hg : W.grownBy (W.setCell ⟨n0 + 1, 0, none⟩ (.int .i64 r')) (some (n0 + 1)) := grownBy_setCell' _ _ _
  exact ⟨h.1.setCell (p := ⟨n0 + 1, 0, none⟩) (show n0 + 1 ≤ n0 + 1 by omega) _, h.2.1.set _, h.2.2.1.kept hg (by simp; omega), h.2.2.2.kept hg (by simp; omega)⟩

theorem BS.drew {w0 : World} {n0 bs wd : Nat} {z r : Int} {W : World} (h : BS w0 n0 bs wd z r W) : BS w0 n0 bs wd z r W.drew := ⟨⟨h.1.os, h.1.tape, h.1.output, h.1.size, h.1.block⟩, h.2.1, h.2.2.1, h.2.2.2⟩

theorem BS.lt {w0 : World} {n0 bs wd : Nat} {z r : Int} {W : World} (h : BS w0 n0 bs wd z r W) : n0 + 1 < W.heap.size ∧ bs + 1 < W.heap.size := ⟨h.2.1.lt, h.2.2.2.lt⟩

theorem KpB.of {n₀ Bs : Nat} {A B : World} (h : Below A.heap.size A B) (hn : n₀ ≤ A.heap.size) : KpB n₀ Bs A B := ⟨h.mono hn, fun v hv => by
  have hlt : Bs < A.heap.size := by
    simp only [World.cell?] at hv
    by_cases hc : Bs < A.heap.size
    · exact hc
    · rw [Array.getElem?_eq_none (by omega)] at hv; cases hv
  exact (h.cell (p := ⟨Bs, 0, none⟩) hlt).trans hv⟩

theorem KpB.set {n₀ Bs b : Nat} {A : World} (hn : n₀ ≤ b) (hb : b ≠ Bs) (v : Value) : KpB n₀ Bs A (A.setCell ⟨b, 0, none⟩ v) :=
  ⟨(Below.refl n₀ A).setCell (p := ⟨b, 0, none⟩) hn _, fun u hu => by
    have hg := (grownBy_setCell' A b v).block Bs
    have hlt : Bs < A.heap.size := by
      simp only [World.cell?] at hu
      by_cases hc : Bs < A.heap.size
      · exact hc
      · rw [Array.getElem?_eq_none (by omega)] at hu; cases hu
    have := hg hlt (by simp; omega)
    simp only [World.cell?, this] at hu ⊢
    exact hu⟩

/-- A callee's word gives the round's. -/
theorem keeps_below {W W' : World} (h : Below W.heap.size W W') : KeepsOthers W W' :=
  ⟨h.size, fun k _ hk _ => (h.block k (Array.getElem?_eq_some_iff.1 hk).1).trans hk⟩

set_option maxHeartbeats 8000000 in
set_option maxRecDepth 100000 in
theorem bottom_f {s : Array Nat} {h2 H : Nat → Nat} (F : Fl s h2 H) {w : World} {B0 sb so cs lo up hr gn gc d a wd : Nat} {gp : Option Addr} {g : List Nat} (hM : CM w B0 sb so s gp g) (hB : B0 ≤ w.heap.size) (hn : s.size ≤ 1048576) (hgn : gn = g.length) (hgl : g.length ≤ 1048576)
    (hg : ∀ k ∈ g, k + 1 < s.size) (hcmp : ∀ k ∈ g, D.order (H k) wd ≠ none) (hd1 : D.mul two d = some a) (hd2 : D.mul a hr = some wd) (hlo : lo ≤ 1048576) :
    Calls Ybad.prog 23 #[clv sb so s.size cs lo up hr gp gn gc, .float .f64 d] w fun e w' => e = .returned (.int .i64 (botL s.size ((g.filter fun k => decide (k < lo) && longer H wd k).reverse) : Nat)) ∧ Below w.heap.size w w' := by
  obtain ⟨hb0, hbw⟩ := bx_start hM hB s.size cs lo up hr gn gc
  have HH := (show Hid _ from And.intro hg hcmp)
  have n1 : (s.size : Int) ≤ 1048576 := by omega
  have g1 : (gn : Int) ≤ 1048576 := by omega
  have g0 : (0 : Int) ≤ (gn : Int) := by omega
  have u0 : (0 : Int) ≤ (lo : Int) := by omega
  clear hM hg hcmp
  subst hgn
  refine (callsIn_wide (n := 3)).1 ?_
  refine callsIn_of_wp_marks Ybad.func23 rfl trivial ?_ rfl
  simp only [Ybad.ntmps23, List.size_toArray, List.length_cons, List.length_nil, Nat.reduceAdd, Nat.reduceSub, Array.replicate_succ, Array.replicate_zero, List.push_toArray, List.append_toArray, List.nil_append, List.cons_append]
  have cW := widening_f (sb := sb) (so := so) (n := s.size) (cs := cs) (lo := lo) (up := up) (gn := g.length) (gc := gc) (gp := gp) hd1 hd2
  have HB := (show Hid _ from And.intro hb0 hbw)
  clear hb0 hbw hd1 hd2
  gi_wp2_with fail
  refine ⟨trivial, ?_⟩
  gi_at_call 39
  refine (callsIn_wide.2 (cW _)).mono ?_
  rintro e W2 ⟨rfl, hb2⟩
  generalize hw0 : w.alloc _ = w0 at *
  have hs0 : w0.heap.size = w.heap.size + 1 := by rw [← hw0]; simp
  have hbR : Boxed W2 (w.heap.size + 1) 3 (.int .i64 0) := by
    have := Boxed.new w0 3 (.int .i64 0)
    rw [hs0] at this
    exact (hb2.block _ this.lt).trans this
  have hb0 : Below w0.heap.size w0 W2 := ((Below.refl _ w0).alloc (Nat.le_refl _) _).trans (hb2.mono (by simp))
  have hsz : w.heap.size + 2 ≤ W2.heap.size := by have := hb2.size; simp at this; omega
  clear hb2 cW
  have c4 : ((W2.alloc (.cells #[.float .f64 wd] 23)).alloc (.cells #[.int .i64 (-1)] 3)).cell? ⟨w.heap.size, 4, none⟩ = some (.slice gp g.length gc) :=
    (HB.out.1.next (((hb0.alloc (by omega) _).alloc (by simp; omega) _))).c4
  gi_wp2_with fail
  refine ⟨trivial, ?_⟩
  gi_at_call 41
  refine (back_in Fence.wide _ trivial rfl _ _ _ _).mono ?_
  rintro e W3 ⟨rfl, hW3⟩
  gi_wp2_with fail
  have hZs : W3.heap.size = W2.heap.size + 3 := by rw [hW3]; simp
  have hbZ : Below (w.heap.size + 1) w0 W3 := by rw [hW3]; exact (((hb0.alloc (by omega) _).alloc (by simp; omega) _).alloc (by simp; omega) _).mono (by omega)
  have hBS0 : BS w0 w.heap.size W2.heap.size wd (-1) 0 W3 := by
    refine ⟨hbZ, ?_, ?_, ?_⟩
    · rw [hW3]; exact ((hbR.alloc _).alloc _).alloc _
    · rw [hW3]; exact ((Boxed.new W2 23 (.float .f64 wd)).alloc _).alloc _
    · rw [hW3]
      have := Boxed.new (W2.alloc (.cells #[.float .f64 wd] 23)) 3 (.int .i64 (-1))
      rw [World.size_alloc] at this
      exact this.alloc _
  have hBk : W3.cell? ⟨W2.heap.size + 2, 0, none⟩ = some (.slice gp g.length gc) := by
    rw [hW3]
    have := Boxed.new ((W2.alloc (.cells #[.float .f64 wd] 23)).alloc (.cells #[.int .i64 (-1)] 3)) 27 (.slice gp g.length gc)
    rw [World.size_alloc, World.size_alloc] at this
    exact this.cell
  have HBZ := (show Hid _ from And.intro hBS0 (And.intro hBk hZs))
  have HB1 : Hid (∀ W, Below (w.heap.size + 1) w0 W → Bx w0 (w.heap.size + 1) w.heap.size sb so s.size cs lo up hr gp g.length gc s g W) := fun W hb => HB.out.1.next (by rw [hs0]; exact hb)
  rw [← hW3]
  clear c4 hbR hb0 hW3 hw0 hBS0 hBk hbZ
  refine wpIn_rangeFunc_ownG rfl (by omega) (gf := 52) (lb := #[.pointer (some ⟨W2.heap.size + 2, 0, none⟩)]) rfl trivial (enters_of Ybad.func52 (by kernel_rfl) rfl)
    (S := fun ys : List (GI g) => ixs ys = (List.range g.length).reverse) (Sp := fun pre : List (GI g) => ∃ t, t ≤ g.length ∧ ixs pre = (List.range' t (g.length - t)).reverse) (N := g.length) (w0 := W3) (encs := genc g) (Kp := KpB (w.heap.size + 1) (W2.heap.size + 2))
    (fun l J Jx W hW _ _ hY h0 => back1_in Fence.wide _ trivial rfl (by omega) l _ (w.heap.size + 1) gc gp g hgl J Jx hY W ((hW.cell (p := ⟨W2.heap.size + 2, 0, none⟩) (by have := HBZ.out.2.2; show W2.heap.size + 2 < _; omega)).trans HBZ.out.2.1) ?cells h0)
    (fun h k => h.trans k) (fun W l o o' hl h h1 h2 => KpB.put (by have := HBZ.out.2.2; omega) W l o o' hl h h1 h2) (Below.refl _ _) (fun _ => rfl)
    (fun pre W => ∃ z, Iv s.size (fun k => decide (k < lo) && longer H wd k) pre z ∧ BS w0 w.heap.size W2.heap.size wd z 0 W)
    (fun c pre W => c = .ret ∧ ∃ (z : Int) (r : Nat), (∀ rest, botL s.size ((vals pre ++ rest).filter (fun k => decide (k < lo) && longer H wd k)) = r) ∧ BS w0 w.heap.size W2.heap.size wd z r W)
    (fun pre W W' row ⟨z, h1, h2⟩ hg hr => ⟨z, h1, h2.own hs0.symm (by have := HBZ.out.2.2; omega) hg hr⟩)
    (fun c pre W W' row ⟨h0, z, r, h1, h2⟩ hg hr => ⟨h0, z, r, h1, h2.own hs0.symm (by have := HBZ.out.2.2; omega) hg hr⟩)
    ⟨-1, .inl ⟨rfl, fun rest => rfl⟩, HBZ.out.1⟩
    (fun x => { tmps := #[clv sb so s.size cs lo up hr gp g.length gc, .float .f64 d, .pointer (some ⟨w.heap.size, 0, none⟩), undef, .pointer (some ⟨w.heap.size + 1, 0, none⟩), .pointer (some ⟨W2.heap.size, 0, none⟩), .pointer (some ⟨W2.heap.size + 1, 0, none⟩), undef, .int .i64 (gval g x : Nat), clv sb so s.size cs lo up hr gp g.length gc, .float .f64 d, .float .f64 wd, .pointer (some ⟨w.heap.size, 4, none⟩), .slice gp g.length gc, .func (.func 52) #[] #[.pointer (some ⟨W2.heap.size + 2, 0, none⟩)], .int .i64 (x.1 : Int), .int .i64 (gval g x : Nat), undef, undef, undef, undef, undef, undef, undef, undef, undef, undef, undef, undef, undef, undef, undef, undef, undef, undef, undef, undef, undef, undef, undef, undef, undef, undef, undef, undef, undef, undef, undef, undef, undef, undef], defers := [] }) ?assign ?body ?done ?stop
  case cells =>
    intro j hj
    have hk : g[j]? = some (g[j]?.getD 0) := by rw [List.getElem?_eq_getElem hj]; rfl
    obtain ⟨b, off, e1, e2, e3⟩ := (HB1.out W (HBZ.out.1.1.trans (hW.mono (by have := HBZ.out.2.2; omega)))).m.gc j _ hk
    exact ⟨b, off, e1, e2, e3⟩
  case assign =>
    intro l x W K hK
    gi_wp2
    exact hK
  case body =>
    rintro l pre x W ⟨z, hIv, hBS⟩ _
    have hbx := HB1.out W hBS.1
    have hkg : gval g x ∈ g := by
      have hj := x.2
      have : g[x.1]? = some (gval g x) := by unfold gval; rw [List.getElem?_eq_getElem hj]; rfl
      exact List.mem_of_getElem? this
    have hkn := HH.out.1 _ hkg
    have hko := HH.out.2 _ hkg
    obtain ⟨k, hk⟩ : ∃ k, gval g x = k := ⟨_, rfl⟩
    have HK : Hid (gval g x = k) := hk
    rw [hk] at hkg hkn hko ⊢
    clear hk
    have HX := (show Hid _ from And.intro hIv hBS)
    have c0 := hbx.c0
    have c1 := hbx.c1
    have c2 := hbx.c2
    have c3 := hbx.c3
    have c4 := hbx.c4
    have cS := hBS.2.2.1.cell
    have cE := hBS.2.2.2.cell
    have fE := hBS.2.2.2.frozen
    have cR := hBS.2.1.cell
    have fR := hBS.2.1.frozen
    have k0 : (0 : Int) ≤ (k : Int) := by omega
    have hmx : Ybad.prog.follows .mixedOrders = true := by kernel_rfl
    by_cases hl : lo ≤ k
    · have l1 : (lo : Int) ≤ (k : Int) := by omega
      clear hIv hBS hko
      gi_wp2
      have HE : Hid ((KeepsFrom W3.heap.size W W.drew ∧ KpB (w.heap.size + 1) (W2.heap.size + 2) W W.drew) ∧ ∃ z, Iv s.size (fun k => decide (k < lo) && longer H wd k) (pre ++ [x]) z ∧ BS w0 w.heap.size W2.heap.size wd z 0 W.drew) :=
        ⟨⟨(KeepsOthers.drew _).from _, ⟨⟨rfl, rfl, rfl, Nat.le_refl _, fun _ _ => rfl⟩, fun _ h => h⟩⟩, z, HX.out.1.skip (by rw [HK.out]; simp [show ¬ k < lo by omega]), HX.out.2.drew⟩
      gi_region_with_o (refine ⟨trivial, ?_⟩)
      all_goals gi_wp2
      all_goals exact ⟨HE.out.1.1, HE.out.1.2, HE.out.2⟩
    · have l1 : ¬ (lo : Int) ≤ (k : Int) := by omega
      have hbd := HB1.out W.drew hBS.drew.1
      have hle := hbd.le
      have cH := halfStep_f (cs := cs) (lo := lo) (up := up) (hr := hr) (gn := g.length) (gc := gc) F hbd.m hbd.le hkn hn
      clear hIv hBS hbx hbd
      have HL : Hid (longer H wd k = (D.order (H k) wd == some .gt)) := rfl
      generalize H k = rr at *
      cases ho : D.order rr wd with
      | none => exact absurd ho hko
      | some o =>
      have ho2 : FloatKind.f64.format.order rr wd = some o := ho
      rw [ho] at HL
      clear hko ho
      gi_wp2
      refine Go.wpIn_mono (Q := fun ex a' W4 => ex = .normal ∧ ∃ b, a' = { tmps := #[clv sb so s.size cs lo up hr gp g.length gc, .float .f64 d, .pointer (some ⟨w.heap.size, 0, none⟩), undef, .pointer (some ⟨w.heap.size + 1, 0, none⟩), .pointer (some ⟨W2.heap.size, 0, none⟩), .pointer (some ⟨W2.heap.size + 1, 0, none⟩), undef, .int .i64 k, clv sb so s.size cs lo up hr gp g.length gc, .float .f64 d, .float .f64 wd, .pointer (some ⟨w.heap.size, 4, none⟩), .slice gp g.length gc, .func (.func 52) #[] #[.pointer (some ⟨W2.heap.size + 2, 0, none⟩)], .int .i64 (x.1 : Int), .int .i64 k, .int .i64 k, .pointer (some ⟨w.heap.size, 1, none⟩), .int .i64 lo, .bool false, .bool false, clv sb so s.size cs lo up hr gp g.length gc, .int .i64 k, .float .f64 rr, .float .f64 wd, .bool b, .bool b, undef, undef, undef, undef, undef, undef, undef, undef, undef, undef, undef, undef, undef, undef, undef, undef, undef, undef, undef, undef, undef, undef, undef], defers := [] } ∧ b = !(some o == some Ordering.gt) ∧ Below W.drew.heap.size W.drew W4) ?_ ?_
      · gi_region_with_o (refine ⟨trivial, ?_⟩; gi_at_call 20; refine (CallsIn.inRound l (callsIn_wide.2 cH)).mono ?_; rintro e W4 ⟨rfl, hb4⟩; have cS4 := (HX.out.2.drew.next hle hb4).2.2.1.cell)
        all_goals exact ⟨rfl, _, rfl, by cases o <;> rfl, by assumption⟩
      · rintro ex a' W4 ⟨rfl, b, rfl, hb, hb4⟩
        have hB4 := HX.out.2.drew.next hle hb4
        have HK4 : Hid (KeepsOthers W W4 ∧ KpB (w.heap.size + 1) (W2.heap.size + 2) W W4) := ⟨(KeepsOthers.drew W).trans (keeps_below hb4), KpB.trans (B := W.drew) ⟨⟨rfl, rfl, rfl, Nat.le_refl _, fun _ _ => rfl⟩, fun _ h => h⟩ (KpB.of hb4 hle)⟩
        have hbx4 := HB1.out W4 hB4.1
        have c0 := hbx4.c0
        have c1 := hbx4.c1
        have c2 := hbx4.c2
        have c3 := hbx4.c3
        have c4 := hbx4.c4
        have cE := hB4.2.2.2.cell
        have fE := hB4.2.2.2.frozen
        have cR := hB4.2.1.cell
        have fR := hB4.2.1.frozen
        have HX4 : Hid (BS w0 w.heap.size W2.heap.size wd z 0 W4) := hB4
        have hle4 := hbx4.le
        clear cS cH hb4 hB4 hbx4
        cases hg : (some o == some Ordering.gt) with
        | false =>
          rw [hg] at hb HL
          obtain rfl : b = true := hb
          clear hg
          gi_wp2
          exact ⟨HK4.out.1.from _, HK4.out.2, z, HX.out.1.skip (by rw [HK.out, show longer H wd k = false from HL.out]; simp), HX4.out⟩
        | true =>
          rw [hg] at hb HL
          obtain rfl : b = false := hb
          clear hg
          have HPk : Hid ((fun k => decide (k < lo) && longer H wd k) (gval g x) = true) := by
            show _ = _
            rw [HK.out]; show (decide (k < lo) && longer H wd k) = true; rw [show longer H wd k = true from HL.out]; simp; omega
          rcases HX.out.1 with ⟨rfl, hz⟩ | ⟨e, rfl, he, hz⟩
          · have HZ := (show Hid _ from hz)
            clear hz
            gi_wp2_with (refine ⟨trivial, ?_⟩)
            exact ⟨(HK4.out.1.trans (KeepsOthers.setCell _ _ _)).from _, HK4.out.2.trans (KpB.set (by omega) (by omega) _), _, .inr ⟨k, rfl, by omega, fun rest => by rw [← HK.out]; exact Iv.at (L := []) HZ.out HPk.out rest⟩, BS.setEnd (by omega) HX4.out _⟩
          · have HZ := (show Hid _ from hz)
            clear hz
            have e0 : (0 : Int) ≤ (e : Int) := by omega
            have e1 : (e : Int) ≤ 1048576 := by omega
            have cM := isMode_f (sb := sb) (so := so) (n := s.size) (cs := cs) (lo := lo) (up := up) (hr := hr) (gn := g.length) (gc := gc) (gp := gp) ((e : Int) + 1 - ((k : Int) + 1)) W4
            have HM : Hid (∀ rest, botL s.size ((vals (pre ++ [x]) ++ rest).filter (fun k => decide (k < lo) && longer H wd k)) = if modeF s.size ((e : Int) + 1 - ((k : Int) + 1)) = true then botL s.size (k :: rest.filter (fun k => decide (k < lo) && longer H wd k)) else e + 1) := fun rest => by
              rw [Iv.at (L := [e]) HZ.out HPk.out rest, HK.out]; rfl
            generalize modeF s.size ((e : Int) + 1 - ((k : Int) + 1)) = mm at *
            cases mm with
            | true =>
              gi_wp2_with fail
              refine ⟨trivial, ?_⟩
              gi_at_call 42
              refine (CallsIn.inRound l (callsIn_wide.2 cM)).mono ?_
              rintro e' W5 ⟨rfl, hb5⟩
              have hB5 := BS.next HX4.out hle4 hb5
              have cE5 := hB5.2.2.2.cell
              have fE5 := hB5.2.2.2.frozen
              have H5 : Hid (BS w0 w.heap.size W2.heap.size wd _ 0 W5 ∧ KeepsOthers W4 W5 ∧ KpB (w.heap.size + 1) (W2.heap.size + 2) W4 W5) := And.intro hB5 (And.intro (keeps_below hb5) (KpB.of (Bs := W2.heap.size + 2) hb5 hle4))
              clear hB5 hb5 cM
              gi_wp2
              exact ⟨((HK4.out.1.trans H5.out.2.1).trans (KeepsOthers.setCell _ _ _)).from _, (HK4.out.2.trans H5.out.2.2).trans (KpB.set (by omega) (by omega) _), _, .inr ⟨k, rfl, by omega, fun rest => by rw [HM.out]; rfl⟩, BS.setEnd (by omega) H5.out.1 _⟩
            | false =>
              gi_wp2_with fail
              refine ⟨trivial, ?_⟩
              gi_at_call 42
              refine (CallsIn.inRound l (callsIn_wide.2 cM)).mono ?_
              rintro e' W5 ⟨rfl, hb5⟩
              have hB5 := BS.next HX4.out hle4 hb5
              have cE5 := hB5.2.2.2.cell
              have fE5 := hB5.2.2.2.frozen
              have cR5 := hB5.2.1.cell
              have fR5 := hB5.2.1.frozen
              have H5 : Hid (BS w0 w.heap.size W2.heap.size wd _ 0 W5 ∧ KeepsOthers W4 W5 ∧ KpB (w.heap.size + 1) (W2.heap.size + 2) W4 W5) := And.intro hB5 (And.intro (keeps_below hb5) (KpB.of (Bs := W2.heap.size + 2) hb5 hle4))
              clear hB5 hb5 cM
              gi_wp2
              exact ⟨((HK4.out.1.trans H5.out.2.1).trans (KeepsOthers.setCell _ _ _)).from _, rfl, _, e + 1, fun rest => by rw [HM.out]; rfl, BS.setRes (by omega) H5.out.1 _⟩
  case done =>
    rintro D ys W hD hS ⟨z, hIv, hBS⟩ hK
    have hbx := HB1.out W hBS.1
    have c0 := hbx.c0
    have c1 := hbx.c1
    have c2 := hbx.c2
    have c3 := hbx.c3
    have c4 := hbx.c4
    have cE := hBS.2.2.2.cell
    have fE := hBS.2.2.2.frozen
    have cR := hBS.2.1.cell
    have fR := hBS.2.1.frozen
    have hv : vals ys = g.reverse := vals_all hS
    have HX := (show Hid _ from hBS)
    have hle := hbx.le
    have hD2 := HBZ.out.2.2
    clear hbx hBS hS
    rcases hIv with ⟨rfl, hz⟩ | ⟨e, rfl, he, hz⟩
    · have HZ : Hid (botL s.size ((g.filter fun k => decide (k < lo) && longer H wd k).reverse) = 0) := by
        have := hz []
        rw [List.append_nil, hv, List.filter_reverse] at this
        exact this
      clear hz hv
      gi_wp2_with (refine ⟨trivial, ?_⟩)
      have HX5 : Hid (BS w0 w.heap.size W2.heap.size wd (-1) 0 W ∧ KeepsOthers W W) := And.intro HX.out (KeepsOthers.refl _)
      have HF : Hid (BS w0 w.heap.size W2.heap.size wd (-1) 0 (W.setCell ⟨w.heap.size + 1, 0, none⟩ (.int .i64 0))) := BS.setRes (by omega) HX5.out.1 _
      have hK' := (HX5.out.2.trans (KeepsOthers.setCell W ⟨w.heap.size + 1, 0, none⟩ (.int .i64 0))).same D _ hK rfl
      refine ⟨by simp, .inl ⟨_, _, rfl, run_takeDeferred hK', ?_⟩⟩
      have hc5 := cell_kept HF.out.2.1.cell (grownBy_putObj' _ D (.deferred none)) (fun r e => by cases e; exact ⟨_, hK', rfl⟩)
      refine ⟨.int .i64 0, ?_, by rw [HZ.out]; rfl, (HB.out.2.trans (HF.out.1.mono (by omega))).trans (belowK_b (w := w) (Nat.le_refl _) _ D _ _ (by omega) hK' rfl rfl)⟩
      simp [results, Ybad.f23, go_sem, hc5]
    · have HZ : Hid (botL s.size ((g.filter fun k => decide (k < lo) && longer H wd k).reverse) = if modeF s.size ((e : Int) + 1) = true then 0 else e + 1) := by
        have := hz []
        rw [List.append_nil, hv, List.filter_reverse] at this
        exact this
      clear hz hv
      have e0 : (0 : Int) ≤ (e : Int) := by omega
      have e1 : (e : Int) ≤ 1048576 := by omega
      have cM := isMode_f (sb := sb) (so := so) (n := s.size) (cs := cs) (lo := lo) (up := up) (hr := hr) (gn := g.length) (gc := gc) (gp := gp) ((e : Int) + 1) W
      generalize modeF s.size ((e : Int) + 1) = mm at *
      cases mm with
      | true =>
        rw [if_pos rfl] at HZ
        gi_wp2_with fail
        refine ⟨trivial, ?_⟩
        gi_at_call 42
        refine (callsIn_wide.2 cM).mono ?_
        rintro e' W5 ⟨rfl, hb5⟩
        have hB5 : BS w0 w.heap.size W2.heap.size wd ((e : Int) + 1) 0 W5 := BS.next HX.out hle hb5
        have cE5 := hB5.2.2.2.cell
        have fE5 := hB5.2.2.2.frozen
        have cR5 := hB5.2.1.cell
        have fR5 := hB5.2.1.frozen
        have HX5 : Hid (BS w0 w.heap.size W2.heap.size wd ((e : Int) + 1) 0 W5 ∧ KeepsOthers W W5) := And.intro hB5 (keeps_below hb5)
        clear hB5 hb5 cM
        gi_wp2
        have HF : Hid (BS w0 w.heap.size W2.heap.size wd ((e : Int) + 1) 0 (W5.setCell ⟨w.heap.size + 1, 0, none⟩ (.int .i64 0))) := BS.setRes (by omega) HX5.out.1 _
        have hK' := (HX5.out.2.trans (KeepsOthers.setCell W5 ⟨w.heap.size + 1, 0, none⟩ (.int .i64 0))).same D _ hK rfl
        refine ⟨by simp, .inl ⟨_, _, rfl, run_takeDeferred hK', ?_⟩⟩
        have hc5 := cell_kept HF.out.2.1.cell (grownBy_putObj' _ D (.deferred none)) (fun r e => by cases e; exact ⟨_, hK', rfl⟩)
        refine ⟨.int .i64 0, ?_, by rw [HZ.out]; rfl, (HB.out.2.trans (HF.out.1.mono (by omega))).trans (belowK_b (w := w) (Nat.le_refl _) _ D _ _ (by omega) hK' rfl rfl)⟩
        simp [results, Ybad.f23, go_sem, hc5]
      | false =>
        rw [if_neg (by decide)] at HZ
        gi_wp2_with fail
        refine ⟨trivial, ?_⟩
        gi_at_call 42
        refine (callsIn_wide.2 cM).mono ?_
        rintro e' W5 ⟨rfl, hb5⟩
        have hB5 : BS w0 w.heap.size W2.heap.size wd ((e : Int) + 1) 0 W5 := BS.next HX.out hle hb5
        have cE5 := hB5.2.2.2.cell
        have fE5 := hB5.2.2.2.frozen
        have cR5 := hB5.2.1.cell
        have fR5 := hB5.2.1.frozen
        have HX5 : Hid (BS w0 w.heap.size W2.heap.size wd ((e : Int) + 1) 0 W5 ∧ KeepsOthers W W5) := And.intro hB5 (keeps_below hb5)
        clear hB5 hb5 cM
        gi_wp2
        have HF : Hid (BS w0 w.heap.size W2.heap.size wd ((e : Int) + 1) ((e : Int) + 1) (W5.setCell ⟨w.heap.size + 1, 0, none⟩ (.int .i64 ((e : Int) + 1)))) := BS.setRes (by omega) HX5.out.1 _
        have hK' := (HX5.out.2.trans (KeepsOthers.setCell W5 ⟨w.heap.size + 1, 0, none⟩ (.int .i64 ((e : Int) + 1)))).same D _ hK rfl
        refine ⟨by simp, .inl ⟨_, _, rfl, run_takeDeferred hK', ?_⟩⟩
        have hc5 := cell_kept HF.out.2.1.cell (grownBy_putObj' _ D (.deferred none)) (fun r e => by cases e; exact ⟨_, hK', rfl⟩)
        refine ⟨.int .i64 ((e : Int) + 1), ?_, by rw [HZ.out]; rfl, (HB.out.2.trans (HF.out.1.mono (by omega))).trans (belowK_b (w := w) (Nat.le_refl _) _ D _ _ (by omega) hK' rfl rfl)⟩
        simp [results, Ybad.f23, go_sem, hc5]
  case stop =>
    rintro D c pre W hD ⟨t, ht, hp⟩ ⟨rfl, z, r, hr2, hBS⟩ hK
    have HZ : Hid (botL s.size ((g.filter fun k => decide (k < lo) && longer H wd k).reverse) = r) := by
      have := hr2 (g.take t).reverse
      rw [vals_part ht hp, ← List.reverse_append, List.take_append_drop, List.filter_reverse] at this
      exact this
    have HX : Hid (BS w0 w.heap.size W2.heap.size wd z r W) := hBS
    have hD2 := HBZ.out.2.2
    clear hr2 hBS hp ht
    gi_wp2
    refine ⟨by simp, .inl ⟨_, _, rfl, run_takeDeferred hK, ?_⟩⟩
    have hc5 := cell_kept HX.out.2.1.cell (grownBy_putObj' _ D (.deferred none)) (fun r e => by cases e; exact ⟨_, hK, rfl⟩)
    refine ⟨.int .i64 (r : Int), ?_, by rw [HZ.out], (HB.out.2.trans (HX.out.1.mono (by omega))).trans (belowK_b (w := w) (Nat.le_refl _) _ D _ _ (by omega) hK rfl rfl)⟩
    simp [results, Ybad.f23, go_sem, hc5]
end Go.Proofs.YbulkdswcDoor
