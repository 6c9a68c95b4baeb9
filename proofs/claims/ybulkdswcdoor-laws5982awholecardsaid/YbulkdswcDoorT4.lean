import Derived.Test.YbulkdswcDoorT3
import Derived.Maps.AppendAt
import Derived.Laws.AppendOwn
namespace Go.Proofs.YbulkdswcDoor
open Go Ieee Go.RowKit Go.Sort

theorem info3 : (Ybad.prog.info? 3).map (fun i => (i.zero, i.size, i.bytes)) = some (some (.int .i64 0), 1, 8) := by kernel_rfl
theorem info23 : (Ybad.prog.info? 23).map (fun i => (i.zero, i.size, i.bytes)) = some (some (.float .f64 0), 1, 8) := by kernel_rfl

/-- An append of one value to a row of one's own. -/
theorem append_one {ty ety : TypeId} {B n : Nat} {v z : Value} {cs : List Value} {wy : World} (x : Value) (hu : Ybad.prog.underlying ty = some (.slice ety)) (hinfo : (Ybad.prog.info? ety).map (fun i => (i.zero, i.size, i.bytes)) = some (some z, 1, 8)) (hz : z.cells.size = 1) (hx : x.oneCell' = true)
    (h : wy.ownsRow B ety 1 v n cs) (hB : B ≤ wy.heap.size) (hn : n ≤ 9000) :
    ∃ g c w2, (Builtin.append_ #[ty, ty] ty #[v, .slice (some ⟨wy.heap.size, 0, none⟩) 1 1]).run Ybad.prog (wy.alloc (.cells #[x] ety)) = .ok (.slice (some ⟨g, 0, none⟩) (n + 1) c) w2 ∧
      w2.ownsRow B ety 1 (.slice (some ⟨g, 0, none⟩) (n + 1) c) (n + 1) (cs ++ [x]) ∧ Below B wy w2 := by
  obtain ⟨i0, hi, hz0, hz1, hz2⟩ := info_parts hinfo
  obtain ⟨v', w', hrun, hown, hg, hnil, hloc⟩ := run_append_own_at (P := Ybad.prog) (wy.alloc (.cells #[x] ety)) B ty ty ety i0 _ 1 8 hu hi hz0 hz1 hz2 hz (by decide) v n cs (h.alloc _)
    ⟨wy.heap.size, 0, none⟩ 1 1 [x] rfl (cell_one_new wy _ _) (fun u hu => by simp at hu; subst hu; exact hx) (by unfold maxLen; omega) (by omega) (by simp; omega)
  have hne : v' ≠ .slice none 0 0 := fun e => by have := (hnil.1 e).2; omega
  rcases hown.2 with ⟨e, _⟩ | ⟨gk, ck, cur, rfl, rest⟩
  · exact absurd e hne
  refine ⟨gk, ck, w', hrun, hown, ?_⟩
  refine (Below.refl B wy).grown ((World.grownBy_alloc wy _ _).trans hg) hB fun k e => ?_
  rcases h.2 with ⟨e1, _⟩ | ⟨g, cap, cur2, e1, hlo, _⟩
  · rw [e1] at e; cases e
  · rw [e1] at e; cases e; exact hlo

theorem rowAt {w : World} {B ety : Nat} {p : Option Addr} {n c : Nat} {xs : List Value} (h : w.ownsRow B ety 1 (.slice p n c) n xs) {i : Nat} (hi : i < n) : ∃ g, p = some ⟨g, 0, none⟩ ∧ B ≤ g ∧ g < w.heap.size ∧ w.cell? ⟨g, i, none⟩ = xs[i]? := by
  rcases id h.2 with ⟨_, e⟩ | ⟨g, cap, cur, e, hlo, hg, h1, h2, h3, h4⟩
  · omega
  · cases e
    refine ⟨g, rfl, hlo, (Array.getElem?_eq_some_iff.1 hg).1, ?_⟩
    rw [← h4]
    simp only [World.cell?, hg]
    rw [List.getElem?_take_of_lt (by omega)]
    simp
end Go.Proofs.YbulkdswcDoor
