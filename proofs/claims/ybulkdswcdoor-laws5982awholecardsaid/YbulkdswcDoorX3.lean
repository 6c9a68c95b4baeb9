import Derived.Test.YbulkdswcDoorW3
import Derived.Test.YbulkdswcDoorX2
import Derived.Laws.MakeOwn
namespace Go.Proofs.YbulkdswcDoor
open Go Ieee Go.RowKit Go.Sort Go.Shelf Go.Lib

theorem KF.make (w : World) {n : Nat} (hn : n ≤ 9000) : ∃ w', (Instr.makeSlice 24 (.int .i64 0) (.int .i64 ((n : Int) + 1))).run Ybad.prog w = .ok (.slice (some ⟨w.heap.size, 0, none⟩) 0 (n + 1)) w' ∧ KF w [] (some ⟨w.heap.size, 0, none⟩) 0 (n + 1) w' := by
  obtain ⟨i0, hi0, hz0, hzs, hzb⟩ := info_parts info23
  obtain ⟨w', h1, h2, h3⟩ := run_make_own (P := Ybad.prog) w w.heap.size 24 23 i0 _ 1 Ybad.underlying24 hi0 hz0 hzs .i64 .i64 (n + 1) (by rw [hzb]; omega) (by unfold maxLen; omega) (Nat.le_refl _)
  exact ⟨w', h1, h2, rfl, (Below.refl _ w).grown h3 (Nat.le_refl _) fun k e => by cases e⟩

theorem own_cells {w : World} {B ety : Nat} {v : Value} {n : Nat} {xs : List Value} (h : w.ownsRow B ety 1 v n xs) (hne : v ≠ .slice none 0 0) : ∃ g c, v = .slice (some ⟨g, 0, none⟩) n c ∧ B ≤ g ∧ g < w.heap.size ∧ ∀ j, j < n → w.cell? ⟨g, j, none⟩ = xs[j]? := by
  rcases id h.2 with ⟨e, _⟩ | ⟨g, cap, cur, e, hlo, hg, h1, h2, h3, h4⟩
  · exact absurd e hne
  · refine ⟨g, cap, e, hlo, (Array.getElem?_eq_some_iff.1 hg).1, fun j hj => ?_⟩
    rw [← h4]
    simp only [World.cell?, hg]
    rw [List.getElem?_take_of_lt (by omega)]
    simp

theorem allEq_self {α : Type} (eq : α → α → Bool) : ∀ l : List α, (∀ x ∈ l, eq x x = true) → Lib.allEq eq l l = true
  | [], _ => rfl
  | x :: l, h => by
    show (eq x x && Lib.allEq eq l l) = true
    rw [h x (List.mem_cons_self ..), allEq_self eq l fun y hy => h y (List.mem_cons_of_mem _ hy)]
    rfl

theorem sizeOf3 (w : World) : (Go.sizeOf 3).run Ybad.prog w = .ok 1 w := by kernel_rfl

theorem clone_s {w : World} {b cs : Nat} {s : Array Nat} (hc : ∀ k, k < s.size → w.cell? ⟨b, 0 + k, none⟩ = some (.float .f64 s[k]!)) (hn : s.size ≤ 9000) :
    Calls Ybad.prog 8 #[.slice (some ⟨b, 0, none⟩) s.size cs] w fun e w' => ∃ g c, e = .returned (.slice (some ⟨g, 0, none⟩) s.size c) ∧ w.heap.size ≤ g ∧ g < w'.heap.size ∧ (∀ k, k < s.size → w'.cell? ⟨g, 0 + k, none⟩ = some (.float .f64 s[k]!)) ∧ Below w.heap.size w w' := by
  obtain ⟨i0, hi0, hz0, hzs, hzb⟩ := info_parts info23
  have hg : ∀ k, k < s.size → (s.toList.map encF)[k]? = some (.float .f64 s[k]!) := fun k hk => by
    rw [List.getElem?_map, Array.getElem?_toList, Array.getElem?_eq_getElem hk, getElem!_pos _ k hk]; rfl
  refine (Ybad.slices_Clone_f8 i0 _ 1 8 hi0 hz0 hzs hzb rfl (by omega) sizeOf23 b 0 s.size cs (s.toList.map encF) w (by simp) (by unfold maxLen; omega) (by omega) (fun j u hj => ?_) (fun u hu => ?_)).mono ?_
  · have hlt : j < s.size := by have := (List.getElem?_eq_some_iff.1 hj).1; simpa using this
    rw [hg j hlt] at hj
    cases hj
    exact hc j hlt
  · obtain ⟨y, _, rfl⟩ := List.mem_map.1 hu; rfl
  · rintro e w' ⟨v', rfl, hown, hne, hb⟩
    obtain ⟨g, c, rfl, h1, h2, h3⟩ := own_cells hown hne
    exact ⟨g, c, rfl, h1, h2, fun k hk => by rw [Nat.zero_add, h3 k hk, hg k hk], hb⟩

theorem clone_g {w : World} {b cg : Nat} {g : List Nat} (hc : ∀ i k, g[i]? = some k → w.cell? ⟨b, 0 + i, none⟩ = some (.int .i64 (k : Nat))) (hn : g.length ≤ 9000) :
    Calls Ybad.prog 9 #[.slice (some ⟨b, 0, none⟩) g.length cg] w fun e w' => ∃ b2 c, e = .returned (.slice (some ⟨b2, 0, none⟩) g.length c) ∧ w.heap.size ≤ b2 ∧ b2 < w'.heap.size ∧ (∀ i k, g[i]? = some k → w'.cell? ⟨b2, 0 + i, none⟩ = some (.int .i64 (k : Nat))) ∧ Below w.heap.size w w' := by
  obtain ⟨i0, hi0, hz0, hzs, hzb⟩ := info_parts info3
  refine (Ybad.slices_Clone_f9 i0 _ 1 8 hi0 hz0 hzs hzb rfl (by omega) sizeOf3 b 0 g.length cg (g.map encI) w (by simp) (by unfold maxLen; omega) (by omega) (fun j u hj => ?_) (fun u hu => ?_)).mono ?_
  · rw [List.getElem?_map] at hj
    obtain ⟨k, hk, rfl⟩ := Option.map_eq_some_iff.1 hj
    exact hc j k hk
  · obtain ⟨y, _, rfl⟩ := List.mem_map.1 hu; rfl
  · rintro e w' ⟨v', rfl, hown, hne, hb⟩
    obtain ⟨b2, c, rfl, h1, h2, h3⟩ := own_cells hown hne
    exact ⟨b2, c, rfl, h1, h2, fun i k hk => by rw [Nat.zero_add, h3 i (List.getElem?_eq_some_iff.1 hk).1, List.getElem?_map, hk]; rfl, hb⟩

theorem equal_s {w : World} {b1 b2 c1 c2 : Nat} {s : Array Nat} (F : Fin32 s) (hn : s.size ≤ 9000) (h1 : ∀ k, k < s.size → w.cell? ⟨b1, 0 + k, none⟩ = some (.float .f64 s[k]!)) (h2 : ∀ k, k < s.size → w.cell? ⟨b2, 0 + k, none⟩ = some (.float .f64 s[k]!)) :
    Calls Ybad.prog 11 #[.slice (some ⟨b1, 0, none⟩) s.size c1, .slice (some ⟨b2, 0, none⟩) s.size c2] w fun e w' => e = .returned (.bool true) ∧ ∃ q, w' = w.drewN q := by
  have hat : ∀ k, k < s.toList.length → s.toList[k]! = s[k]! := fun k hk => by
    have hk2 : k < s.size := by simpa using hk
    rw [getElem!_pos _ k hk, getElem!_pos _ k hk2, Array.getElem_toList]
  have := Ybad.slices_Equal_f11 (Value.float .f64) _ (NeqAt.float Ybad.prog 23 .f64) b1 0 s.size c1 b2 0 s.size c2 s.toList s.toList w (by simp) (by simp) (by omega) (by omega) (fun j hj => by rw [hat j hj]; exact h1 j (by simpa using hj)) (fun j hj => by rw [hat j hj]; exact h2 j (by simpa using hj))
  rw [allEq_self] at this
  · exact this
  · intro x hx
    have hx2 := List.mem_of_mem_take hx
    obtain ⟨k, hk, e⟩ := List.mem_iff_getElem.1 hx2
    have hk2 : k < s.size := by simpa using hk
    obtain ⟨neg, r, e2, hr⟩ := F k hk2
    have e3 : x = s[k]! := by rw [getElem!_pos _ k hk2, ← e, Array.getElem_toList]
    rw [e3, e2]
    have := (fkey_word neg (Nat.le_trans hr (by decide))).2
    show (D.order _ _ == some .eq) = true
    rw [order_fin this this, cmp_eq rfl]
    rfl

theorem neqI : NeqAt Ybad.prog 3 encI (fun x y : Nat => ((x : Int) == (y : Int))) := ⟨fun x y w => (NeqAt.int Ybad.prog 3 .i64).1 (x : Int) (y : Int) w, fun op a b x y w => (NeqAt.int Ybad.prog 3 .i64).2 op a b (x : Int) (y : Int) w⟩

theorem equal_g {w : World} {b1 b2 c1 c2 : Nat} {g : List Nat} (hn : g.length ≤ 9000) (h1 : ∀ i k, g[i]? = some k → w.cell? ⟨b1, 0 + i, none⟩ = some (.int .i64 (k : Nat))) (h2 : ∀ i k, g[i]? = some k → w.cell? ⟨b2, 0 + i, none⟩ = some (.int .i64 (k : Nat))) :
    Calls Ybad.prog 12 #[.slice (some ⟨b1, 0, none⟩) g.length c1, .slice (some ⟨b2, 0, none⟩) g.length c2] w fun e w' => e = .returned (.bool true) ∧ ∃ q, w' = w.drewN q := by
  have hat : ∀ k, k < g.length → g[k]? = some g[k]! := fun k hk => by rw [getElem!_pos _ k hk, List.getElem?_eq_getElem hk]
  have := Ybad.slices_Equal_f12 encI _ neqI b1 0 g.length c1 b2 0 g.length c2 g g w (by omega) (by omega) (by omega) (by omega) (fun j hj => h1 j _ (hat j hj)) (fun j hj => h2 j _ (hat j hj))
  rw [allEq_self] at this
  · exact this
  · intro x _
    simp

/-! ### The input as floats -/
def toF (x : Int) : Nat := floatOfInt .f64 x
def inL (n : Nat) (xs : List Int) : List Nat := (if n = 0 then [0] else []) ++ xs.map toF

theorem toF_ok {x : Int} (h : x.natAbs ≤ 2 ^ 32) : ∃ neg r, toF x = D.word neg r ∧ r ≤ B32 := by
  obtain ⟨r, h1, h2⟩ := nearest32 (decide (x < 0)) h
  exact ⟨_, r, h1, h2⟩

theorem inL_ok {n : Nat} {xs : List Int} (h : ∀ x ∈ xs, x.natAbs ≤ 2 ^ 32) : ∀ y ∈ inL n xs, ∃ neg r, y = D.word neg r ∧ r ≤ B32 := by
  intro y hy
  unfold inL at hy
  rcases List.mem_append.1 hy with k | k
  · split at k
    · rw [List.mem_singleton] at k
      exact ⟨false, 0, by rw [k]; rfl, by decide⟩
    · cases k
  · obtain ⟨x, hx, rfl⟩ := List.mem_map.1 k
    exact toF_ok (h x hx)

theorem inL_len {n : Nat} {xs : List Int} (h : xs.length = n) : 0 < (inL n xs).length ∧ (inL n xs).length ≤ n + 1 := by
  unfold inL
  rw [List.length_append, List.length_map, h]
  split
  · simp; omega
  · simp; omega

/-- Behind the sort. -/
theorem sorted_of {n : Nat} {xs : List Int} (h : ∀ x ∈ xs, x.natAbs ≤ 2 ^ 32) {s : Array Nat} {m : Nat} (hl : (inL n xs).length = m) (hp : PermIn 0 m (inL n xs).toArray s) : s.size = m ∧ Fin32 s := by
  have hs : s.size = m := by have := hp.1; simp at this; omega
  refine ⟨hs, fun k hk => inL_ok (n := n) h _ ?_⟩
  exact (perm_mem hp hl _).1 ⟨k, hk, rfl⟩

theorem gps_steps {s : Array Nat} {hr : Nat} : stepsUp (stp s) (wid hr FST) 0 (List.range (s.size - 1)) = gps s hr := by
  unfold stepsUp gps
  exact List.filter_congr fun k _ => by simp
end Go.Proofs.YbulkdswcDoor
