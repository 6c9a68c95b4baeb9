import Derived.Orders
import Derived.Test.YbulkdswcDoorU5
namespace Go.Proofs.YbulkdswcDoor
open Go Ieee Go.RowKit Go.Sort Go.Shelf Go.Lib

/-! ### A region that draws its order, each slot held to a predicate: whatever order is drawn -/

/-- What an operation may yield. -/
def TR (P : Program) (C : World → Prop) (φ : Value → Prop) : Result Next → Prop
  | .ok (.value u) w' => C w' ∧ φ u
  | .ok (.enter f args) w' => Calls P f args w' fun e w'' => ∃ u, e = .returned u ∧ φ u ∧ C w''
  | _ => False

/-- The slots that an operation looks at. -/
def looks (o : Oper) : List Tmp := o.op.operands.toList.filterMap fun | .tmp t => some t | _ => none

theorem looks_mem {o : Oper} {t : Tmp} (h : t ∈ looks o) : Operand.tmp t ∈ o.op.operands := by
  obtain ⟨x, hx, e⟩ := List.mem_filterMap.1 h
  cases x <;> simp at e
  subst e
  simpa using hx

/-- One operation, asked for. -/
def OpT (P : Program) (DS : List Tmp) (C : World → Prop) (Φ : Tmp → Value → Prop) (a0 : Act) (o : Oper) : Prop :=
  ∀ (a : Act) (w : World), C w → (∀ t, t ∉ DS → a.eval (.tmp t) = a0.eval (.tmp t)) → (∀ t, t ∈ looks o → t ∈ DS → Φ t (a.eval (.tmp t))) → ∀ d, o.dst = some d → TR P C (Φ d) ((execOp a.eval o).run P w)

def AllT (P : Program) (DS : List Tmp) (C : World → Prop) (Φ : Tmp → Value → Prop) (a0 : Act) : List Oper → Prop
  | [] => True
  | o :: r => OpT P DS C Φ a0 o ∧ AllT P DS C Φ a0 r

theorem AllT.at {P : Program} {DS : List Tmp} {C : World → Prop} {Φ : Tmp → Value → Prop} {a0 : Act} {l : List Oper} (h : AllT P DS C Φ a0 l) : ∀ o ∈ l, OpT P DS C Φ a0 o := by
  induction l with
  | nil => intro o ho; cases ho
  | cons x r ih =>
    intro o ho
    rcases List.mem_cons.1 ho with e | ho
    · rw [e]; exact h.1
    · exact ih h.2 o ho

/-- What the kernel looks over. -/
def chkT (ops : List Oper) : Bool :=
  (List.range ops.length).all fun i => match ops[i]? with
    | none => false
    | some o => o.guard.isNone && o.dst.isSome && (o.after.all fun e => !Region.binds .any e || decide (e.on < i)) &&
      (o.op.operands.all fun x => match x with
        | .tmp t => !((ops.filterMap (·.dst)).contains t) || o.after.any fun e => Region.binds .any e && ((ops[e.on]?).bind (·.dst) == some t)
        | _ => true) &&
      (List.range ops.length).all fun j => decide (j = i) || !((ops[j]?).bind (·.dst) == o.dst)

structure ChkT (ops : List Oper) : Prop where
  guard : ∀ (i : Nat) (o : Oper), ops[i]? = some o → o.guard = none
  dst : ∀ (i : Nat) (o : Oper), ops[i]? = some o → ∃ d, o.dst = some d
  back : ∀ (i : Nat) (o : Oper), ops[i]? = some o → ∀ e ∈ o.after, Region.binds .any e = true → e.on < i
  look : ∀ (i : Nat) (o : Oper), ops[i]? = some o → ∀ t, Operand.tmp t ∈ o.op.operands → t ∈ ops.filterMap (·.dst) → ∃ e ∈ o.after, Region.binds .any e = true ∧ (ops[e.on]?).bind (·.dst) = some t
  apart : ∀ (i : Nat) (o : Oper) (j : Nat) (o' : Oper), ops[i]? = some o → ops[j]? = some o' → j ≠ i → o'.dst ≠ o.dst

theorem chkT_ok {ops : List Oper} (h : chkT ops = true) : ChkT ops := by
  unfold chkT at h
  rw [List.all_eq_true] at h
  have key : ∀ (i : Nat) (o : Oper), ops[i]? = some o → (o.guard.isNone && o.dst.isSome && (o.after.all fun e => !Region.binds .any e || decide (e.on < i)) &&
      (o.op.operands.all fun x => match x with
        | .tmp t => !((ops.filterMap (·.dst)).contains t) || o.after.any fun e => Region.binds .any e && ((ops[e.on]?).bind (·.dst) == some t)
        | _ => true) &&
      (List.range ops.length).all fun j => decide (j = i) || !((ops[j]?).bind (·.dst) == o.dst)) = true := fun i o ho => by
    have h1 := h i (List.mem_range.2 (List.getElem?_eq_some_iff.1 ho).1)
    rw [ho] at h1
    exact h1
  refine ⟨fun i o ho => ?_, fun i o ho => ?_, fun i o ho e he hb => ?_, fun i o ho t ht htd => ?_, fun i o j o' ho ho' hji => ?_⟩
  · have := key i o ho
    simp only [Bool.and_eq_true] at this
    exact Option.isNone_iff_eq_none.1 this.1.1.1.1
  · have := key i o ho
    simp only [Bool.and_eq_true] at this
    exact Option.isSome_iff_exists.1 this.1.1.1.2
  · have := key i o ho
    simp only [Bool.and_eq_true] at this
    have h3 := Array.all_eq_true'.1 this.1.1.2 e he
    rw [hb] at h3
    simpa using h3
  · have := key i o ho
    simp only [Bool.and_eq_true] at this
    have h3 := Array.all_eq_true'.1 this.1.2 _ ht
    simp only [Bool.or_eq_true, Bool.not_eq_true', List.contains_eq_mem, decide_eq_false_iff_not] at h3
    rcases h3 with h3 | h3
    · exact absurd htd h3
    · obtain ⟨e, he, h4⟩ := Array.any_eq_true'.1 h3
      simp only [Bool.and_eq_true, beq_iff_eq] at h4
      exact ⟨e, he, h4⟩
  · have := key i o ho
    simp only [Bool.and_eq_true] at this
    have h3 := List.all_eq_true.1 this.2 j (List.mem_range.2 (List.getElem?_eq_some_iff.1 ho').1)
    rw [ho'] at h3
    simp only [Bool.or_eq_true, decide_eq_true_eq, Bool.not_eq_true', beq_eq_false_iff_ne] at h3
    rcases h3 with h3 | h3
    · exact absurd h3 hji
    · exact h3
end Go.Proofs.YbulkdswcDoor
