import Derived.Test.YbulkdsyuC3
import Derived.DeepKeys4
namespace Go.Proofs.Ybulkdsyu
open Go Go.RowKit Go.Maps Go.WideMaps Go.WideElems

theorem laidOutC : laidOutB Yba.prog = true := by kernel_rfl
theorem keyed72 : Keyed Yba.prog 72 := Keyed.of_law (deep_law_laid laidOutC (m := 2) (by omega) (of_decide_eq_true (by kernel_rfl)) (by kernel_rfl) (by kernel_rfl))

/-- One MessageID: its sender, its number. -/
def kv (k : Int × Int) : Value := .agg #[.int .i64 k.1, .int .u64 k.2]
def kl (k : Int × Int) : Lit := .string (keyBytes [.int .i64 k.1, .int .u64 k.2])
def KWf (k : Int × Int) : Prop := (Lit.int .i64 k.1).wf = true ∧ (Lit.int .u64 k.2).wf = true

theorem keyOf_pair {P : Program} {t t1 t2 : TypeId} {f1 f2 : Field} (hu : P.underlying t = some (.struct #[f1, f2])) (x1 : f1.type = t1) (x2 : f1.offset = 0) (x3 : f2.type = t2) (x4 : f2.offset = 1) (n1 : f1.name ≠ "_") (n2 : f2.name ≠ "_")
    (h1 : P.underlying t1 = some (.int .i64)) (h2 : P.underlying t2 = some (.int .u64)) (e1 : P.keyType t = true) (e2 : P.cellsOf t = 2) (e3 : P.cellsOf t1 = 1) (e4 : P.cellsOf t2 = 1) (e5 : 0 < P.types.size)
    {a b : Int} (ha : (Lit.int .i64 a).wf = true) (hb : (Lit.int .u64 b).wf = true) : keyOf P t (.agg #[.int .i64 a, .int .u64 b]) = some (.string (keyBytes [.int .i64 a, .int .u64 b])) := by
  obtain ⟨d, hd⟩ : ∃ d, P.types.size = d + 1 := ⟨P.types.size - 1, by omega⟩
  simp [keyOf, hu, e1, Value.formed, e2, hd, Program.keyLits, x1, x2, x3, x4, h1, h2, Value.cells, e3, e4, ha, hb, n1, n2]

theorem keyOf72 {k : Int × Int} (h : KWf k) : keyOf Yba.prog 72 (kv k) = some (kl k) :=
  keyOf_pair (t1 := 3) (t2 := 65) Yba.underlying72 rfl rfl rfl rfl (by simp) (by simp) Yba.underlying3 Yba.underlying65 (by kernel_rfl) (by kernel_rfl) (by kernel_rfl) (by kernel_rfl) (of_decide_eq_true (by kernel_rfl)) h.1 h.2

theorem kl_inj {a b : Int × Int} (ha : KWf a) (hb : KWf b) (h : kl a = kl b) : a = b := by
  have e1 := keyOf72 ha
  rw [h] at e1
  have := keyed72.inj e1 (keyOf72 hb)
  simp [kv] at this
  obtain ⟨a1, a2⟩ := a
  obtain ⟨b1, b2⟩ := b
  simp at this
  rw [this.1, this.2]

/-- How a pointer to a whole block reads. -/
def ptrElem (v : Value) : Option (DataW Unit × List MemPlace) :=
  match v with
  | .pointer none => some (.lit (.int .i64 (-1)), [])
  | .pointer (some a) => if a = ⟨a.block, 0, none⟩ then some (.lit (.int .i64 a.block), []) else none
  | _ => none
def ptr (b : Nat) : Value := .pointer (some ⟨b, 0, none⟩)
theorem ptrElem_ptr (b : Nat) : ptrElem (ptr b) = some (.lit (.int .i64 b), []) := by simp [ptrElem, ptr]
theorem ptrElem_inv {v : Value} {b : Nat} {ps : List MemPlace} (h : ptrElem v = some (.lit (.int .i64 b), ps)) : v = ptr b := by
  unfold ptrElem at h
  split at h
  · simp at h
  · split at h
    · rename_i a e
      simp at h
      rw [e, ptr]
      simp
    · cases h
  · cases h

/-- How many keys there are, each counted at its last place. -/
def nd : List (Int × Int) → Nat
  | [] => 0
  | k :: t => (if k ∈ t then 0 else 1) + nd t

theorem nd_snoc (ks : List (Int × Int)) (k : Int × Int) : nd (ks ++ [k]) = if k ∈ ks then nd ks else nd ks + 1 := by
  induction ks with
  | nil => simp [nd]
  | cons a t ih =>
    simp only [List.cons_append, nd, ih, List.mem_append, List.mem_cons, List.not_mem_nil, or_false]
    by_cases h1 : k ∈ t
    · by_cases h2 : a ∈ t
      · simp [h1, h2]
      · have h3 : a ≠ k := fun e => h2 (e ▸ h1)
        simp [h1, h2, h3]
    · by_cases h3 : a = k
      · subst h3; simp [h1]; omega
      · by_cases h2 : a ∈ t
        · simp [h1, h2, Ne.symm h3]
        · simp [h1, h2, h3, Ne.symm h3]; omega

theorem nd_le (ks : List (Int × Int)) : nd ks ≤ ks.length := by
  induction ks with
  | nil => simp [nd]
  | cons a t ih => simp only [nd, List.length_cons]; split <;> omega

/-- The map: each key at its last pointer, nothing else. -/
structure DictL (ks : List (Int × Int)) (ps : List Nat) (D : DataW Unit) : Prop where
  size : Maps.size D = nd ks
  hit : ∀ (i : Nat) k b, ks[i]? = some k → ps[i]? = some b → (∀ (j : Nat) k', i < j → ks[j]? = some k' → k' ≠ k) → ∀ z, D.atKey (kl k) z = .lit (.int .i64 b)
  has : ∀ k, KWf k → (Maps.has D (kl k) = true ↔ k ∈ ks)

theorem DictL.empty : DictL [] [] (.map []) := ⟨rfl, fun i k b h => by simp at h, fun k _ => by simp [Maps.has]⟩

theorem DictL.put {ks : List (Int × Int)} {ps : List Nat} {D : DataW Unit} (h : DictL ks ps D) (ht : Tidy D) (hl : ps.length = ks.length) (hw : ∀ k ∈ ks, KWf k) {k : Int × Int} (hk : KWf k) (b : Nat) :
    DictL (ks ++ [k]) (ps ++ [b]) (D.put (kl k) (.lit (.int .i64 b))) := by
  have hkl : WideAt.IsKeyLit (kl k) := trivial
  refine ⟨?_, ?_, ?_⟩
  · rw [size_put ht, nd_snoc, h.size]
    by_cases hm : k ∈ ks
    · rw [if_pos hm, if_pos ((h.has k hk).2 hm)]
    · rw [if_neg hm, if_neg (fun e => hm ((h.has k hk).1 e))]
  · intro i k' b' h1 h2 hlast z
    by_cases hi : i < ks.length
    · rw [List.getElem?_append_left hi] at h1
      rw [List.getElem?_append_left (by omega)] at h2
      have hne : k ≠ k' := hlast ks.length k hi (by simp)
      have hne' : kl k' ≠ kl k := fun e => hne (kl_inj (hw k' (List.mem_of_getElem? h1)) hk e).symm
      rw [atKey_put_other hne']
      exact h.hit i k' b' h1 h2 (fun j k2 hj h3 => hlast j k2 hj (by
        rw [List.getElem?_append_left (List.getElem?_eq_some_iff.1 h3).1]; exact h3)) z
    · have hi' : i = ks.length := by
        have := (List.getElem?_eq_some_iff.1 h1).1
        simp at this; omega
      subst hi'
      simp at h1
      rw [List.getElem?_append_right (by omega)] at h2
      simp [hl] at h2
      subst h1 h2
      exact atKey_put_same ht.isMap hkl _ z
  · intro k' hk'
    by_cases e : k' = k
    · subst e
      simp [has_put_same ht.isMap hkl]
    · have hne : kl k' ≠ kl k := fun e' => e (kl_inj hk' hk e')
      rw [has_put_other hne, h.has k' hk']
      simp [e]

theorem run_eql72 (a b : Int × Int) (w : World) : (binOp .eql 72 (kv a) (kv b)).run Yba.prog w = .ok (.bool (decide (a = b))) w := by
  have u3 := Yba.underlying3
  have a3 := Yba.isAgg3
  have z3 := Yba.sizeOf3
  have u65 := Yba.underlying65
  have a65 := Yba.isAgg65
  have z65 := Yba.sizeOf65
  have hS : Yba.prog.underlying 72 = some (.struct (Yba.prog.fieldsOf 72)) := by kernel_rfl
  have hp : Yba.prog.stoodInHeld 72 = false := by kernel_rfl
  obtain ⟨a1, a2⟩ := a
  obtain ⟨b1, b2⟩ := b
  simp only [kv]
  rw [run_eql_struct, show (10000 : Nat) = 9999 + 1 from rfl, run_equalIn_agg w 9999 72 _ _ hS hp]
  simp only [Program.fieldsOf, Yba.underlying72]
  by_cases h1 : a1 = b1 <;> by_cases h2 : a2 = b2 <;> go_simp <;> simp [h1, h2]
end Go.Proofs.Ybulkdsyu
