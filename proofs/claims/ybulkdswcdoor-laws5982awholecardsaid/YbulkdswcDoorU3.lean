import Derived.BigQuiet
import Derived.Test.YbulkdswcDoorU2
namespace Go.Proofs.YbulkdswcDoor
open Go Ieee Go.RowKit Go.Sort Go.Shelf

theorem topL_lt {n : Nat} (hn : 0 < n) : ∀ (l : List Nat), (∀ k ∈ l, k < n) → topL n l < n
  | [], _ => by unfold topL; omega
  | [e], h => by unfold topL; have := h e (by simp); split <;> omega
  | e :: k :: r, h => by
    unfold topL
    have h1 := h e (by simp)
    have h2 := topL_lt hn (k :: r) fun x hx => h x (List.mem_cons_of_mem _ hx)
    split
    · exact h2
    · exact h1

theorem botL_lt {n : Nat} (hn : 0 < n) : ∀ (l : List Nat), (∀ k ∈ l, k + 1 < n) → botL n l < n
  | [], _ => by unfold botL; omega
  | [e], h => by unfold botL; have := h e (by simp); split <;> omega
  | e :: k :: r, h => by
    unfold botL
    have h1 := h e (by simp)
    have h2 := botL_lt hn (k :: r) fun x hx => h x (List.mem_cons_of_mem _ hx)
    split
    · exact h2
    · exact h1

/-- The steps below lo that end a cluster, the greatest first. -/
def stepsDown (H : Nat → Nat) (wd lo : Nat) (g : List Nat) : List Nat := (g.filter fun k => decide (k < lo) && longer H wd k).reverse

def topI (n : Nat) (H : Nat → Nat) (wd up : Nat) (g : List Nat) : Nat := topL n (stepsUp H wd up g)
def botI (n : Nat) (H : Nat → Nat) (wd lo : Nat) (g : List Nat) : Nat := botL n (stepsDown H wd lo g)

theorem topI_lt {n : Nat} {H : Nat → Nat} {wd up : Nat} {g : List Nat} (hn : 0 < n) (hg : ∀ k ∈ g, k + 1 < n) : topI n H wd up g < n :=
  topL_lt hn _ fun k hk => by have := hg k (List.mem_filter.1 hk).1; omega
theorem botI_lt {n : Nat} {H : Nat → Nat} {wd lo : Nat} {g : List Nat} (hn : 0 < n) (hg : ∀ k ∈ g, k + 1 < n) : botI n H wd lo g < n :=
  botL_lt hn _ fun k hk => hg k (List.mem_filter.1 (List.mem_reverse.1 hk)).1

/-- A region that draws, over a class of worlds. -/
theorem wp_region_class {P : Program} {id : Nat} {Q : Exit → Act → World → Prop} {a : Act} {w : World} {l : List Oper} {ι : Type} (f : ι → World) (hm : P.follows .mixedOrders = true) (hB : Region.lexB .any l.toArray = true) (h0 : ∃ i, { w with drawn := w.drawn + 1 } = f i)
    (h : wpQuiet P l.toArray (fun w' => ∃ i, w' = f i) (fun a' => ∀ w', (∃ i, w' = f i) → Q .normal a' w') l a) : (Code.region id l.toArray true).wp P Q a w :=
  wp_region_quiet (C := fun w' => ∃ i, w' = f i) hm hB h0 (by simpa using h)

theorem class_of (Cl : World → Prop) : ∃ (ι : Type) (f : ι → World), (∀ i, Cl (f i)) ∧ ∀ w, Cl w → ∃ i, w = f i := ⟨{ w // Cl w }, Subtype.val, fun i => i.2, fun w h => ⟨⟨w, h⟩, rfl⟩⟩

theorem below_drawn {W : World} : Below W.heap.size W { W with drawn := W.drawn + 1 } := ⟨rfl, rfl, rfl, Nat.le_refl _, fun _ _ => rfl⟩

set_option maxHeartbeats 8000000 in
set_option maxRecDepth 100000 in
theorem bounds_f {s : Array Nat} {h2 H : Nat → Nat} (F : Fl s h2 H) {w : World} {B0 sb so cs lo up hr gn gc d a wd ab be : Nat} {gp : Option Addr} {g : List Nat} (hM : CM w B0 sb so s gp g) (hB : B0 ≤ w.heap.size) (hn : s.size ≤ 1048576) (hn0 : 0 < s.size) (hgn : gn = g.length) (hgl : g.length ≤ 1048576)
    (hg : ∀ k ∈ g, k + 1 < s.size) (hcmp : ∀ k ∈ g, D.order (H k) wd ≠ none) (hd1 : D.mul two d = some a) (hd2 : D.mul a hr = some wd) (hlo : lo ≤ 1048576) (hup : up ≤ 1048576)
    (ha : D.add s[topI s.size H wd up g]! wd = some ab) (hb : D.sub s[botI s.size H wd lo g]! wd = some be) :
    Calls Ybad.prog 18 #[clv sb so s.size cs lo up hr gp gn gc, .float .f64 d] w fun e w' => e = .returned (.tuple #[.float .f64 ab, .float .f64 be]) ∧ Below w.heap.size w w' := by
  obtain ⟨hb0, hbw⟩ := bx_start hM hB s.size cs lo up hr gn gc
  have n1 : (s.size : Int) ≤ 1048576 := by omega
  have n0 : (1 : Int) ≤ (s.size : Int) := by omega
  have t1 := topI_lt (H := H) (wd := wd) (up := up) hn0 hg
  have t2 := botI_lt (H := H) (wd := wd) (lo := lo) hn0 hg
  have ea := run_add ha
  have eb := run_sub hb
  have HG := (show Hid _ from And.intro hg (And.intro hcmp (And.intro hgn (And.intro hgl (And.intro hd1 hd2)))))
  clear hM ha hb hg hcmp hgn hgl hd1 hd2
  go_enter Ybad.func18, Ybad.ntmps18
  go_upto_region 1 with fail
  generalize w.alloc _ = W at *
  have HBW := (show Hid _ from And.intro hb0 hbw)
  have c0 := hb0.c0
  have c1 := hb0.c1
  have c2 := hb0.c2
  have c3 := hb0.c3
  have c4 := hb0.c4
  have cW := widening_f (sb := sb) (so := so) (n := s.size) (cs := cs) (lo := lo) (up := up) (gn := gn) (gc := gc) (gp := gp) HG.out.2.2.2.2.1 HG.out.2.2.2.2.2 W
  go_wp2_with fail
  refine cW.mono ?_
  rintro e W2 ⟨rfl, hb2⟩
  have hb3 := HBW.out.1.next hb2
  clear cW c0 c1 c2 c3 c4 hb0 hbw
  go_upto_region 2 with fail
  obtain ⟨ι, f, hf, hfs⟩ := class_of (fun w' => Below W2.heap.size W2 w')
  have hbf : ∀ i, Bx W (w.heap.size + 1) w.heap.size sb so s.size cs lo up hr gp gn gc s g (f i) := fun i => hb3.next (hf i)
  have c0 : ∀ i, (f i).cell? ⟨w.heap.size, 0, none⟩ = _ := fun i => (hbf i).c0
  have c1 : ∀ i, (f i).cell? ⟨w.heap.size, 1, none⟩ = _ := fun i => (hbf i).c1
  have c2 : ∀ i, (f i).cell? ⟨w.heap.size, 2, none⟩ = _ := fun i => (hbf i).c2
  have c3 : ∀ i, (f i).cell? ⟨w.heap.size, 3, none⟩ = _ := fun i => (hbf i).c3
  have c4 : ∀ i, (f i).cell? ⟨w.heap.size, 4, none⟩ = _ := fun i => (hbf i).c4
  have HT : Hid (∀ i, Calls Ybad.prog 24 #[clv sb so s.size cs lo up hr gp gn gc, .float .f64 d] (f i) fun e w' => e = .returned (.int .i64 (topI s.size H wd up g : Nat)) ∧ ∃ j, w' = f j) := fun i =>
    (top_f (cs := cs) (lo := lo) (gc := gc) F (hbf i).m (hbf i).le hn hn0 HG.out.2.2.1 HG.out.2.2.2.1 HG.out.1 HG.out.2.1 HG.out.2.2.2.2.1 HG.out.2.2.2.2.2 hup).mono fun e w' h => ⟨h.1, hfs _ ((hf i).trans (h.2.mono (hf i).size))⟩
  have HBt : Hid (∀ i, Calls Ybad.prog 23 #[clv sb so s.size cs lo up hr gp gn gc, .float .f64 d] (f i) fun e w' => e = .returned (.int .i64 (botI s.size H wd lo g : Nat)) ∧ ∃ j, w' = f j) := fun i =>
    (bottom_f (cs := cs) (up := up) (gc := gc) F (hbf i).m (hbf i).le hn HG.out.2.2.1 HG.out.2.2.2.1 HG.out.1 HG.out.2.1 HG.out.2.2.2.2.1 HG.out.2.2.2.2.2 hlo).mono fun e w' h => ⟨h.1, hfs _ ((hf i).trans (h.2.mono (hf i).size))⟩
  have s1 : ∀ i, (f i).cell? ⟨sb, so + topI s.size H wd up g, none⟩ = some (.float .f64 s[topI s.size H wd up g]!) := fun i => (hbf i).m.sc _ t1
  have s2 : ∀ i, (f i).cell? ⟨sb, so + botI s.size H wd lo g, none⟩ = some (.float .f64 s[botI s.size H wd lo g]!) := fun i => (hbf i).m.sc _ t2
  have h0 : ∃ i, { W2 with drawn := W2.drawn + 1 } = f i := hfs _ below_drawn
  have HF := (show Hid (∀ i, Below W2.heap.size W2 (f i)) from hf)
  have HB2 := (show Hid _ from hb2)
  generalize topI s.size H wd up g = t at *
  generalize botI s.size H wd lo g = b at *
  generalize s[t]! = x at *
  generalize s[b]! = y at *
  have u1 : (t : Int) < (s.size : Int) := by omega
  have u2 : (b : Int) < (s.size : Int) := by omega
  have u3 : (0 : Int) ≤ (t : Int) := by omega
  have u4 : (0 : Int) ≤ (b : Int) := by omega
  clear hbf hfs hf hb3 hb2 hlo hup
  have _ : Nonempty ι := ⟨h0.choose⟩
  refine wp_region_class f (by kernel_rfl) (by kernel_rfl) h0 ?_
  clear h0
  repeat (go_big_quiet_step (first | exact HT.out _ | exact HBt.out _))
  refine wpQuiet_nil ?_
  rintro _ ⟨i, rfl⟩
  go_wp2
  go_ret2
  exact ⟨rfl, HBW.out.2.trans ((HB2.out.trans ((HF.out i).mono HB2.out.size)).mono HBW.out.2.size)⟩
end Go.Proofs.YbulkdswcDoor
