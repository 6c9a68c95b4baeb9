import Derived.Test.YbulkdsyuProg
import Derived.WalkKit
import Derived.WalkSpells
import Derived.WalkLawsBesides
import Derived.WalkSmall
import Derived.BigQuiet
import Derived.Deep.QuietTactic
import Derived.Deep.Light
import Derived.Deep.OwnRows
import Derived.Laws.BytesArg
namespace Go.Proofs.Ybulkdsyu
open Go Go.RowKit

theorem add_block (a : Addr) (i : Nat) : (a.add i).block = a.block := by
  unfold Addr.add
  split <;> simp_all

/-- string(b) of a slice of bytes, at whatever address. -/
theorem run_str_at {w : World} {a : Addr} {len cap : Nat} {xs : List Int} (hlen : xs.length = len) (hcell : ∀ i, i < len → w.cell? (a.add i) = some (.int .u8 (xs.getD i 0))) :
    (convert 33 9 (.slice (some a) len cap)).run Yba.prog w = .ok (.string (strOfNums xs)) w := by
  have hl : (loadCells a len).run Yba.prog w = .ok (xs.map (Value.int .u8)).toArray w := by
    have := run_loadCells_list (P := Yba.prog) w a (xs.map (Value.int .u8)) (fun j v hj => by
      have hjl : j < xs.length := by have := (List.getElem?_eq_some_iff.1 hj).1; simpa using this
      rw [hcell j (by omega)]
      simp [List.getElem?_eq_getElem hjl] at hj
      subst hj
      simp [List.getD, List.getElem?_eq_getElem hjl])
    simpa [hlen] using this
  rw [run_convert_bytes_string w 33 9 5 _ len cap Yba.underlying33 Yba.underlying5 Yba.underlying9, run_bytesToString w _ len cap xs hl, foldl_push_bytes]
  simp [strOfNums, ByteArray.empty, ByteArray.emptyWithCapacity]
  rfl

/-- The slice of bytes v reads as s in the world w; its cells lie in blocks that S lets. -/
def Reads (S : Nat → Prop) (w : World) (v : Value) (s : ByteArray) : Prop :=
  (v = .slice none 0 0 ∧ s = strOfNums []) ∨
  ∃ a len cap xs, v = .slice (some a) len cap ∧ xs.length = len ∧ s = strOfNums xs ∧ ∀ i, i < len → S a.block ∧ w.cell? (a.add i) = some (.int .u8 (xs.getD i 0))

theorem Reads.conv {S : Nat → Prop} {w : World} {v : Value} {s : ByteArray} (h : Reads S w v s) : (convert 33 9 v).run Yba.prog w = .ok (.string s) w := by
  rcases h with ⟨rfl, rfl⟩ | ⟨a, len, cap, xs, rfl, hl, rfl, hc⟩
  · exact run_convert_bytes_nil w 33 5 Yba.underlying33 Yba.underlying5 0 0 9 Yba.underlying9
  · exact run_str_at hl fun i hi => (hc i hi).2

theorem Reads.kept {S S' : Nat → Prop} {w w' : World} {v : Value} {s : ByteArray} (h : Reads S w v s) (hb : ∀ b, S b → S' b ∧ w'.heap[b]? = w.heap[b]?) : Reads S' w' v s := by
  rcases h with h | ⟨a, len, cap, xs, rfl, hl, rfl, hc⟩
  · exact .inl h
  · refine .inr ⟨a, len, cap, xs, rfl, hl, rfl, fun i hi => ?_⟩
    obtain ⟨h1, h2⟩ := hc i hi
    obtain ⟨h3, h4⟩ := hb _ h1
    exact ⟨h3, (World.cell?_of_block (by rw [add_block]; exact h4)).trans h2⟩

/-- Below a bound. -/
abbrev Under (B : Nat) : Nat → Prop := fun b => b < B

theorem Reads.below {B B' : Nat} {w w' : World} {v : Value} {s : ByteArray} (h : Reads (Under B) w v s) (hb : Below B w w') (hB : B ≤ B') : Reads (Under B') w' v s :=
  h.kept fun b hlt => ⟨Nat.lt_of_lt_of_le hlt hB, hb.block b hlt⟩

theorem Reads.form {S : Nat → Prop} {w : World} {v : Value} {s : ByteArray} (h : Reads S w v s) : ∃ p len cap, v = .slice p len cap := by
  rcases h with ⟨rfl, _⟩ | ⟨a, len, cap, xs, rfl, _⟩
  · exact ⟨_, _, _, rfl⟩
  · exact ⟨_, _, _, rfl⟩

def Value.isNilSlice : Value → Bool
  | .slice none _ _ => true
  | _ => false

set_option maxHeartbeats 1000000 in
/-- bytes.Equal. -/
theorem equal_any (v1 v2 : Value) (s1 s2 : ByteArray) (w : World) (h1 : (convert 33 9 v1).run Yba.prog w = .ok (.string s1) w) (h2 : (convert 33 9 v2).run Yba.prog w = .ok (.string s2) w) :
    Calls Yba.prog 18 #[v1, v2] w fun e w' => e = .returned (.bool (s1.toList == s2.toList)) ∧ w' = w := by
  go_enter Yba.func18, Yba.ntmps18
  go_wp2
  go_ret
  exact ⟨rfl, rfl⟩

set_option maxHeartbeats 1000000 in
/-- zzs5987bsame of two slices that read alike and are both nil or both not. -/
theorem same_yes (p1 p2 : Option Addr) (l1 c1 l2 c2 : Nat) (s : ByteArray) (w : World) (hn : p1.isNone = p2.isNone)
    (h1 : (convert 33 9 (.slice p1 l1 c1)).run Yba.prog w = .ok (.string s) w) (h2 : (convert 33 9 (.slice p2 l2 c2)).run Yba.prog w = .ok (.string s) w) :
    Calls Yba.prog 11 #[.slice p1 l1 c1, .slice p2 l2 c2] w fun e w' => e = .returned (.bool true) ∧ w' = w := by
  have q1 : ∀ (w : World) (a : Option Addr) (n c : Nat), (binOp .eql 33 (.slice a n c) (.slice none 0 0)).run Yba.prog w = .ok (.bool a.isNone) w := fun w a n c => Lib.run_eql_slice_nil w _ _ a n c 0 0 Yba.underlying33
  have hself : (s.toList == s.toList) = true := by simp
  cases p1 <;> cases p2 <;> simp at hn
  all_goals
    go_enter Yba.func11, Yba.ntmps11
    go_wp2_with (go_at_call 18; refine (equal_any _ _ s s _ h1 h2).mono ?_; rintro e w' ⟨rfl, rfl⟩; rw [hself])
    go_ret
    exact ⟨rfl, rfl⟩
end Go.Proofs.Ybulkdsyu
