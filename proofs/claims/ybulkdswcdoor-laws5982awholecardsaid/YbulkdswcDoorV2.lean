import Derived.Test.YbulkdswcDoorV1
namespace Go.Proofs.YbulkdswcDoor
open Go Ieee Go.RowKit Go.Sort Go.Shelf Go.Lib

section
variable {P : Program} {C : World → Prop} {Φ : Tmp → Value → Prop} {a0 : Act} {ops : List Oper}

abbrev dsts (ops : List Oper) : List Tmp := ops.filterMap (·.dst)

/-- What holds between two operations, whatever has come up. -/
structure InvT (C : World → Prop) (Φ : Tmp → Value → Prop) (a0 : Act) (ops : List Oper) (listed : Array Bool) (a : Act) (w : World) : Prop where
  cls : C w
  size : listed.size = ops.length
  def_ : a.defers = a0.defers
  tsz : a.tmps.size = a0.tmps.size
  out : ∀ t, t ∉ dsts ops → a.tmps[t]? = a0.tmps[t]?
  ins : ∀ (i : Nat) (o : Oper) (d : Tmp), ops[i]? = some o → o.dst = some d → listed.getD i false = true → Φ d (a.eval (.tmp d))

theorem mem_dsts {i : Nat} {o : Oper} {d : Tmp} (h : ops[i]? = some o) (hd : o.dst = some d) : d ∈ dsts ops := List.mem_filterMap.2 ⟨o, List.mem_of_getElem? h, hd⟩

theorem getD_agree {l : Array Bool} {i : Nat} (h : i < l.size) : l.getD i true = l.getD i false := by
  simp [Array.getD, h]

theorem getD_setT {l : Array Bool} {i j : Nat} {b : Bool} (h : j ≠ i) (z : Bool) : (l.setIfInBounds i b).getD j z = l.getD j z := by
  rw [Array.getD_eq_getD_getElem?, Array.getD_eq_getD_getElem?, Array.getElem?_setIfInBounds_ne (Ne.symm h)]

theorem InvT.put {listed : Array Bool} {a : Act} {w w' : World} {i : Nat} {o : Oper} {d : Tmp} {u : Value} (K : ChkT ops) (hsz : ∀ t ∈ dsts ops, t < a0.tmps.size) (h : InvT C Φ a0 ops listed a w) (ho : ops[i]? = some o) (hd : o.dst = some d) (hu : Φ d u) (hC : C w') : InvT C Φ a0 ops (listed.setIfInBounds i true) (a.put o.dst u) w' := by
  have hdm := mem_dsts ho hd
  have hdl : d < a.tmps.size := by rw [h.tsz]; exact hsz d hdm
  rw [hd]
  refine ⟨hC, by simp [h.size], h.def_, by simp [Act.put, h.tsz], fun t ht => ?_, fun j o' d' ho' hd' hl => ?_⟩
  · have hne : d ≠ t := fun e => ht (e ▸ hdm)
    simp only [Act.put]
    rw [Array.getElem?_setIfInBounds_ne hne]
    exact h.out t ht
  · by_cases hji : j = i
    · subst hji
      rw [ho] at ho'
      cases ho'
      rw [hd] at hd'
      cases hd'
      have : (a.put (some d) u).eval (.tmp d) = u := by simp [Act.put, Act.eval, Array.getD, hdl]
      rw [this]
      exact hu
    · have hne : d ≠ d' := fun e => K.apart i o j o' ho ho' hji (by rw [hd, hd', e])
      have hl2 : listed.getD j false = true := by rw [getD_setT hji] at hl; exact hl
      have : (a.put (some d) u).eval (.tmp d') = a.eval (.tmp d') := Act.eval_put fun x hx e => by cases hx; cases e; exact hne rfl
      rw [this]
      exact h.ins j o' d' ho' hd' hl2

/-- How many have not come up. -/
def cntT (listed : Array Bool) (n : Nat) : Nat := ((List.range n).filter fun i => !listed.getD i true).length

theorem cntT_set {listed : Array Bool} {n i : Nat} (hi : i < n) (hs : listed.size = n) (h : listed.getD i true = false) : cntT (listed.setIfInBounds i true) n < cntT listed n := by
  unfold cntT
  have e : (List.range n).filter (fun j => !(listed.setIfInBounds i true).getD j true) = ((List.range n).filter fun j => !listed.getD j true).filter fun j => decide (j ≠ i) := by
    rw [List.filter_filter]
    apply List.filter_congr
    intro j hj
    rw [List.mem_range] at hj
    by_cases hji : j = i
    · subst hji
      simp [Array.getD, hs, hj]
    · rw [getD_setT hji, decide_eq_true (show j ≠ i from hji), Bool.true_and]
  rw [e]
  refine List.length_filter_lt_length_iff_exists.2 ⟨i, List.mem_filter.2 ⟨List.mem_range.2 hi, by rw [h]; rfl⟩, by simp⟩

theorem all_listed {listed : Array Bool} (K : ChkT ops) (hs : listed.size = ops.length) (h : Region.ready .any ops.toArray listed = []) : ∀ i, i < ops.length → listed.getD i false = true := by
  intro i
  induction i using Nat.strongRecOn with
  | _ i ih =>
    intro hi
    cases hl : listed.getD i false with
    | true => rfl
    | false =>
      exfalso
      have hl2 : listed.getD i true = false := by rw [getD_agree (by omega)]; exact hl
      have ho : ops[i]? = some ops[i] := List.getElem?_eq_getElem hi
      have : i ∈ Region.ready .any ops.toArray listed := mem_ready.2 ⟨hl2, ops[i], by simp, fun e he hb => ih e.on (K.back i _ ho e he hb) (Nat.lt_trans (K.back i _ ho e he hb) hi)⟩
      rw [h] at this
      cases this

theorem put_all (us : Tmp → Value) : ∀ (DS : List Tmp) (b : Act), (DS.foldl (fun b d => b.put (some d) (us d)) b).defers = b.defers ∧ (DS.foldl (fun b d => b.put (some d) (us d)) b).tmps.size = b.tmps.size ∧
    ∀ t, t < b.tmps.size → (DS.foldl (fun b d => b.put (some d) (us d)) b).tmps[t]? = if t ∈ DS then some (us t) else b.tmps[t]?
  | [], b => ⟨rfl, rfl, fun t _ => by simp⟩
  | d :: DS, b => by
    obtain ⟨h1, h2, h3⟩ := put_all us DS (b.put (some d) (us d))
    have hs : (b.put (some d) (us d)).tmps.size = b.tmps.size := by simp [Act.put]
    refine ⟨h1, h2.trans hs, fun t ht => ?_⟩
    rw [List.foldl_cons, h3 t (by rw [hs]; exact ht)]
    by_cases h : t ∈ DS
    · rw [if_pos h, if_pos (List.mem_cons_of_mem _ h)]
    · rw [if_neg h]
      by_cases e : t = d
      · subst e
        rw [if_pos List.mem_cons_self]
        simp [Act.put, ht]
      · rw [if_neg (fun hc => (List.mem_cons.1 hc).elim e h)]
        simp only [Act.put]
        rw [Array.getElem?_setIfInBounds_ne (fun hc => e hc.symm)]

theorem InvT.done {listed : Array Bool} {a : Act} {w : World} (h : InvT C Φ a0 ops listed a w) : a = (dsts ops).foldl (fun b d => b.put (some d) (a.eval (.tmp d))) a0 := by
  obtain ⟨h1, h2, h3⟩ := put_all (fun d => a.eval (.tmp d)) (dsts ops) a0
  have e2 : a.tmps = ((dsts ops).foldl (fun b d => b.put (some d) (a.eval (.tmp d))) a0).tmps := by
    apply Array.ext_getElem?
    intro t
    by_cases ht : t < a0.tmps.size
    · rw [h3 t ht]
      split
      · have hta : t < a.tmps.size := by rw [h.tsz]; exact ht
        simp [Act.eval, Array.getD, hta]
      · rename_i hn; exact h.out t hn
    · rw [Array.getElem?_eq_none (by rw [h.tsz]; omega), Array.getElem?_eq_none (by rw [h2]; omega)]
  generalize (dsts ops).foldl (fun b d => b.put (some d) (a.eval (.tmp d))) a0 = z at *
  have hd := h.def_
  rw [← h1] at hd
  cases a; cases z
  simp only at e2 hd
  rw [e2, hd]

theorem wpAny_typed {Q : Exit → Act → World → Prop} (K : ChkT ops) (hsz : ∀ t ∈ dsts ops, t < a0.tmps.size) (hop : AllT P (dsts ops) C Φ a0 ops)
    (hQ : ∀ (us : Tmp → Value) (w' : World), C w' → (∀ d ∈ dsts ops, Φ d (us d)) → Q .normal ((dsts ops).foldl (fun b d => b.put (some d) (us d)) a0) w') :
    ∀ (fuel : Nat) (listed : Array Bool) (a : Act) (w : World), cntT listed ops.length ≤ fuel → InvT C Φ a0 ops listed a w → wpAny P .any ops.toArray Q fuel listed a w := by
  have hend : ∀ (listed : Array Bool) (a : Act) (w : World), InvT C Φ a0 ops listed a w → Region.ready .any ops.toArray listed = [] → Q .normal a w := fun listed a w h hr => by
    rw [h.done]
    refine hQ _ w h.cls fun d hd => ?_
    obtain ⟨o, ho, hdo⟩ := List.mem_filterMap.1 hd
    obtain ⟨i, hi, e⟩ := List.mem_iff_getElem.1 ho
    have hio : ops[i]? = some o := List.getElem?_eq_some_iff.2 ⟨hi, e⟩
    exact h.ins i o d hio hdo (all_listed K h.size hr i hi)
  intro fuel
  induction fuel with
  | zero =>
    intro listed a w hc h
    have hr : Region.ready .any ops.toArray listed = [] := by
      rw [List.eq_nil_iff_forall_not_mem]
      intro i hi
      obtain ⟨hl, o, ho, _⟩ := mem_ready.1 hi
      have hin : i < ops.length := (List.getElem?_eq_some_iff.1 (show ops[i]? = some o by simpa using ho)).1
      have := cntT_set hin h.size hl
      omega
    exact ⟨hr, hend listed a w h hr⟩
  | succ fuel ih =>
    intro listed a w hc h
    refine ⟨hend listed a w h, fun i hi => ?_⟩
    obtain ⟨hl, o, ho, hall⟩ := mem_ready.1 hi
    have hio : ops[i]? = some o := by simpa using ho
    have hin : i < ops.length := (List.getElem?_eq_some_iff.1 hio).1
    obtain ⟨d, hd⟩ := K.dst i o hio
    have hlt := cntT_set hin h.size hl
    have hev : ∀ t, t ∉ dsts ops → a.eval (.tmp t) = a0.eval (.tmp t) := fun t ht => by
      have := h.out t ht
      simp only [Act.eval, Array.getD_eq_getD_getElem?, this]
    have hT := (hop.at o (List.mem_of_getElem? hio)) a w h.cls hev (fun t ht htd => by
      obtain ⟨e, he, hb, he2⟩ := K.look i o hio t (looks_mem ht) htd
      obtain ⟨o', ho', hd'⟩ := Option.bind_eq_some_iff.1 he2
      exact h.ins e.on o' t ho' hd' (hall e he hb)) d hd
    unfold wpOp
    simp only [ho]
    have hw : Region.wanted o (yielded ops.toArray a.tmps) = true := by
      unfold Region.wanted
      rw [K.guard i o hio]
    rw [hw, if_pos rfl]
    refine .inl ?_
    unfold Oper.wp
    generalize (execOp a.eval o).run P w = r at *
    cases r with
    | halt x w' => exact hT.elim
    | ok n w' =>
      cases n <;> simp only [TR] at hT <;> simp only [Oper.upon]
      case value u => exact ih _ _ _ (by omega) (h.put K hsz hio hd hT.2 hT.1)
      case enter f args =>
        refine hT.mono ?_
        rintro e w'' ⟨u, rfl, hu, hC⟩
        exact ih _ _ _ (by omega) (h.put K hsz hio hd hu hC)

theorem wp_region_typed {id : Nat} {Q : Exit → Act → World → Prop} {w : World} (hm : P.follows .mixedOrders = true) (hk : chkT ops = true) (hsz : ((dsts ops).all fun t => decide (t < a0.tmps.size)) = true) (hC : C { w with drawn := w.drawn + 1 }) (hop : AllT P (dsts ops) C Φ a0 ops)
    (hQ : ∀ (us : Tmp → Value) (w' : World), C w' → (∀ d ∈ dsts ops, Φ d (us d)) → Q .normal ((dsts ops).foldl (fun b d => b.put (some d) (us d)) a0) w') : (Code.region id ops.toArray true).wp P Q a0 w := by
  refine wp_region_any hm ?_
  refine wpAny_typed (chkT_ok hk) (fun t ht => by simpa using List.all_eq_true.1 hsz t ht) hop hQ _ _ _ _ ?_ ?_
  · unfold cntT
    exact Nat.le_trans (List.length_filter_le _ _) (by simp)
  · exact ⟨hC, by simp, rfl, rfl, fun _ _ => rfl, fun i o d ho hd hl => by simp [Array.getD] at hl⟩
end
end Go.Proofs.YbulkdswcDoor
