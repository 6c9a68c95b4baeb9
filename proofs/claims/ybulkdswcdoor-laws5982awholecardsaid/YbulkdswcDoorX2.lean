import Derived.Test.YbulkdswcDoorU5
import Derived.Test.YbulkdswcDoorX1
namespace Go.Proofs.YbulkdswcDoor
open Go Ieee Go.RowKit Go.Sort Go.Shelf Go.Lib

/-! ### The data out of the input -/
def Fin32 (s : Array Nat) : Prop := ∀ k, k < s.size → ∃ neg r, s[k]! = D.word neg r ∧ r ≤ B32
def hlv (s : Array Nat) (k : Nat) : Nat := (D.div s[k]! two).getD 0
def stp (s : Array Nat) (k : Nat) : Nat := (D.sub (hlv s (k + 1)) (hlv s k)).getD 0

theorem hlv_eq {s : Array Nat} (F : Fin32 s) {k : Nat} (hk : k < s.size) : D.div s[k]! two = some (hlv s k) ∧ ∃ neg q, hlv s k = D.word neg q ∧ q ≤ B32 := by
  obtain ⟨neg, r, e, hr⟩ := F k hk
  obtain ⟨q, h1, h2⟩ := half_le neg (show r < 9218868437227405312 from Nat.lt_of_le_of_lt hr (by decide))
  rw [← e] at h1
  have e2 : hlv s k = D.word neg q := by unfold hlv; rw [h1]; rfl
  exact ⟨by rw [e2]; exact h1, neg, q, e2, Nat.le_trans h2 hr⟩

theorem stp_eq {s : Array Nat} (F : Fin32 s) {k : Nat} (hk : k + 1 < s.size) : D.sub (hlv s (k + 1)) (hlv s k) = some (stp s k) ∧ ∃ sg R, stp s k = D.word sg R ∧ R ≤ B34 := by
  obtain ⟨_, n1, q1, e1, h1⟩ := hlv_eq F hk
  obtain ⟨_, n2, q2, e2, h2⟩ := hlv_eq F (show k < s.size by omega)
  obtain ⟨sg, R, h3, h4, _⟩ := sub_le n1 n2 h1 h2
  rw [← e1, ← e2] at h3
  have e3 : stp s k = D.word sg R := by unfold stp; rw [h3]; rfl
  exact ⟨by rw [e3]; exact h3, sg, R, e3, h4⟩

theorem stp_lt {s : Array Nat} (F : Fin32 s) {k : Nat} (hk : k + 1 < s.size) : stp s k < 18446744073709551616 := by
  obtain ⟨_, sg, R, e, h⟩ := stp_eq F hk
  rw [e]; exact word_lt sg (Nat.le_trans h (by decide))

theorem gt_pos0 {b x : Nat} (hb : b < 18446744073709551616) (hx2 : x ≤ 9218868437227405312) (h : (D.order b x == some .gt) = true) : b ≤ 9218868437227405312 ∧ x < b := by
  rcases Nat.eq_zero_or_pos x with h0 | h0
  · subst h0
    have hnx : nanF 0 = false := by decide
    cases hnb : nanF b with
    | true => rw [order_nan (.inl hnb)] at h; cases h
    | false =>
      rw [order_fin hnb hnx, fkey_pos (x := 0) (by omega)] at h
      have hk : (0 : Int) < fkey b := by
        rcases Int.lt_trichotomy (fkey b) 0 with k | k | k
        · rw [cmp_lt (show fkey b < ((0 : Nat) : Int) from k)] at h; cases h
        · rw [cmp_eq (show fkey b = ((0 : Nat) : Int) from k)] at h; cases h
        · exact k
      rw [nanF_iff] at hnb
      simp only [decide_eq_false_iff_not] at hnb
      unfold fkey at hk
      rw [if_neg hnb] at hk
      unfold skey at hk
      cases hs : (b / 9223372036854775808 % 2 == 1) with
      | true => rw [hs] at hk; simp at hk; omega
      | false =>
        rw [hs] at hk
        simp at hk
        have : b / 9223372036854775808 % 2 ≠ 1 := by simpa using hs
        have hb2 : b < 9223372036854775808 := by omega
        exact ⟨by omega, by omega⟩
  · exact gt_pos hb h0 hx2 h

theorem wid_eq {hr d : Nat} (h0 : 0 < hr) (h1 : hr ≤ B34) (hd : d ≤ 9218868437227405312) : ∃ a, D.mul two d = some a ∧ D.mul a hr = some (wid hr d) ∧ wid hr d ≤ 9218868437227405312 := by
  obtain ⟨a, e1, ha⟩ := mul_two hd
  obtain ⟨r, e2, h2⟩ := mul_pos' ha h0 (Nat.lt_of_le_of_lt h1 (by decide))
  have e3 : wid hr d = r := by unfold wid; rw [e1]; show (D.mul a hr).getD 0 = r; rw [e2]; rfl
  exact ⟨a, e1, by rw [e3]; exact e2, by rw [e3]; exact h2⟩

theorem wid_fst {hr : Nat} (h0 : 0 < hr) (h1 : hr ≤ B34) : wid hr FST < 9218868437227405312 := by
  obtain ⟨a, e1, e2, _⟩ := wid_eq (d := FST) h0 h1 (by decide)
  have e0 : D.mul two FST = some 4588807732320345784 := by decide
  rw [e0] at e1
  cases e1
  rw [mul_comm'] at e2
  obtain ⟨c, hc, hlt⟩ : ∃ c, D.mul B34 4588807732320345784 = some c ∧ c < 9218868437227405312 := by
    obtain ⟨c, hc, _⟩ := mul_pos' (x := B34) (y := 4588807732320345784) (by decide) (by decide) (by decide)
    refine ⟨c, hc, ?_⟩
    have : (D.mul B34 4588807732320345784).all (fun c => decide (c < 9218868437227405312)) = true := by decide +kernel
    rw [hc] at this
    simpa using this
  exact Nat.lt_of_le_of_lt (mul_mono h1 (by decide) (by decide) (by decide) e2 hc) hlt

theorem wid_ge {hr d : Nat} (h0 : 0 < hr) (h1 : hr ≤ B34) (hd1 : FST ≤ d) (hd : d ≤ 9218868437227405312) : wid hr FST ≤ wid hr d := by
  obtain ⟨a, e1, e2, _⟩ := wid_eq (d := FST) h0 h1 (by decide)
  obtain ⟨b, e3, e4, _⟩ := wid_eq (d := d) h0 h1 hd
  exact wide_ge hd1 hd h0 (Nat.lt_of_le_of_lt h1 (by decide)) e1 e2 e3 e4

theorem div_word (s : Bool) {r y : Nat} (hr : r ≤ 9218868437227405312) (hy0 : 0 < y) (hy : y < 9218868437227405312) : ∃ q, D.div (D.word s r) y = some (D.word s q) ∧ q ≤ 9218868437227405312 := by
  unfold Format.div
  rw [← word_false y, read_w s (by omega), read_w false (by omega), if_pos hy]
  have hm := mag_pos (f := D) hy0
  by_cases h : r < 9218868437227405312
  · rw [if_pos h]
    simp only [Datum.quotient, show ¬ mag D y = 0 by omega, if_false, Option.map_some, Format.write, Bool.xor_false]
    obtain ⟨q, h1, h2⟩ := nearest_word' s (2 * (mag D r <<< (D.fractionBits + 2 + (mag D y).log2 - (mag D r).log2) / mag D y) + (mag D r <<< (D.fractionBits + 2 + (mag D y).log2 - (mag D r).log2) % mag D y != 0).toNat) (-1074 + (up D r : Int) - (-1074 + (up D y : Int)) - ((D.fractionBits + 2 + (mag D y).log2 - (mag D r).log2 : Nat) : Int) - 1)
    exact ⟨q, congrArg some h2, h1⟩
  · rw [if_neg h, if_pos (show r = 9218868437227405312 by omega)]
    simp only [Datum.quotient, Option.map_some, Format.write, D_inf, Bool.xor_false]
    exact ⟨_, rfl, Nat.le_refl _⟩

/-- The gaps. -/
def gps (s : Array Nat) (hr : Nat) : List Nat := (List.range (s.size - 1)).filter (longer (stp s) (wid hr FST))

theorem gps_mem {s : Array Nat} {hr k : Nat} (h : k ∈ gps s hr) : k + 1 < s.size ∧ longer (stp s) (wid hr FST) k = true := by
  obtain ⟨h1, h2⟩ := List.mem_filter.1 h
  rw [List.mem_range] at h1
  exact ⟨by omega, h2⟩

theorem dt_of {s : Array Nat} (F : Fin32 s) (n0 : 0 < s.size) (n1 : s.size ≤ 8193) {hr : Nat} (h0 : 0 < hr) (h1 : hr ≤ B34) : Dt s (hlv s) (stp s) hr ((s.size - 1) / 2) (s.size / 2) (gps s hr) := by
  have hri : hr < 9218868437227405312 := Nat.lt_of_le_of_lt h1 (by decide)
  have hwf := wid_fst h0 h1
  have hpos : ∀ k ∈ gps s hr, stp s k ≤ 9218868437227405312 := fun k hk => (gt_pos0 (stp_lt F (gps_mem hk).1) (Nat.le_of_lt hwf) (gps_mem hk).2).1
  refine ⟨n0, by omega, ⟨fun k hk => (hlv_eq F hk).1, fun k hk => (stp_eq F hk).1⟩, fun k hk => (gps_mem hk).1, ?_, by omega, by omega, fun d _ hd => ?_, fun d _ hd k hk => ?_, fun k hk => ?_, fun t ht => ?_, fun t ht => ?_⟩
  · unfold gps
    have := List.length_filter_le (longer (stp s) (wid hr FST)) (List.range (s.size - 1))
    rw [List.length_range] at this
    omega
  · obtain ⟨a, e1, e2, _⟩ := wid_eq h0 h1 hd
    exact ⟨a, e1, e2⟩
  · obtain ⟨a, e1, e2, h3⟩ := wid_eq h0 h1 hd
    rw [order_pos (hpos k hk) h3]
    exact fun h => by cases h
  · obtain ⟨q, e1, hq⟩ := div_word false (hpos k hk) h0 hri
    rw [word_false, word_false] at e1
    obtain ⟨r, e2, hr2⟩ := half_pos hq
    have e3 : sh (stp s) hr k = r := by unfold sh; rw [e1]; show (D.div q two).getD 0 = r; rw [e2]; rfl
    exact ⟨q, e1, by rw [e3]; exact e2, by rw [e3]; exact hr2⟩
  · obtain ⟨neg, r, e, hr2⟩ := F t ht
    rw [add_sub hwf, e]
    obtain ⟨sg, R, h2, _⟩ := sub_fin neg true (show r < 9218868437227405312 from Nat.lt_of_le_of_lt hr2 (by decide)) hwf
    exact ⟨_, h2⟩
  · obtain ⟨neg, r, e, hr2⟩ := F t ht
    rw [e, ← word_false (wid hr FST)]
    obtain ⟨sg, R, h2, _⟩ := sub_fin neg false (show r < 9218868437227405312 from Nat.lt_of_le_of_lt hr2 (by decide)) hwf
    exact ⟨_, h2⟩

theorem vt_of {s : Array Nat} (F : Fin32 s) {hr : Nat} (h0 : 0 < hr) (h1 : hr ≤ B34) (v : Nat) : Vt s.size (hlv s) hr v := by
  have hri : hr < 9218868437227405312 := Nat.lt_of_le_of_lt h1 (by decide)
  cases hn : nanF v with
  | true => exact .inl hn
  | false =>
    have hv := hn
    rw [nanF_iff] at hv
    simp only [decide_eq_false_iff_not, Nat.not_lt] at hv
    obtain ⟨q, e1, hq⟩ := half_word (v / 9223372036854775808 % 2 == 1) hv
    have e2 : D.div v two = some (D.word (v / 9223372036854775808 % 2 == 1) q) := by
      rw [← e1]; unfold Format.div; rw [read_any v]
    generalize (v / 9223372036854775808 % 2 == 1) = sv at *
    refine .inr ⟨hn, _, e2, fun t ht => ⟨?_, ?_⟩⟩
    · obtain ⟨_, n2, q2, e3, h3⟩ := hlv_eq F ht
      obtain ⟨sg, R, e4, hR⟩ := sub_word sv n2 hq (show q2 < 9218868437227405312 from Nat.lt_of_le_of_lt h3 (by decide))
      rw [← e3] at e4
      obtain ⟨p, e5, hp⟩ := div_word sg hR h0 hri
      have e6 : byU v (hlv s) hr t = D.word sg p := by
        unfold byU; rw [e2]; show ((D.sub _ _).bind _).getD _ = _; rw [e4]; show (D.div _ _).getD _ = _; rw [e5]; rfl
      exact ⟨_, e4, by rw [e6]; exact e5, by rw [e6]; exact word_lt sg hp⟩
    · obtain ⟨_, n2, q2, e3, h3⟩ := hlv_eq F ht
      obtain ⟨sg, R, e4, hR⟩ := sub_word' sv n2 hq (show q2 < 9218868437227405312 from Nat.lt_of_le_of_lt h3 (by decide))
      rw [← e3] at e4
      obtain ⟨p, e5, hp⟩ := div_word sg hR h0 hri
      have e6 : byD v (hlv s) hr t = D.word sg p := by
        unfold byD; rw [e2]; show ((D.sub _ _).bind _).getD _ = _; rw [e4]; show (D.div _ _).getD _ = _; rw [e5]; rfl
      exact ⟨_, e4, by rw [e6]; exact e5, by rw [e6]; exact word_lt sg hp⟩

/-! ### The model looks at all steps, the subject at the gaps -/
theorem longer_mono {s : Array Nat} (F : Fin32 s) {hr d k : Nat} (h0 : 0 < hr) (h1 : hr ≤ B34) (hd1 : FST ≤ d) (hd : d ≤ 9218868437227405312) (hk : k + 1 < s.size) (h : longer (stp s) (wid hr d) k = true) : longer (stp s) (wid hr FST) k = true := by
  obtain ⟨a, e1, e2, h3⟩ := wid_eq h0 h1 hd
  obtain ⟨h4, h5⟩ := gt_pos0 (stp_lt F hk) h3 h
  have h6 := wid_ge h0 h1 hd1 hd
  unfold longer
  rw [pos_gt h4 (Nat.le_of_lt (wid_fst h0 h1))]
  exact decide_eq_true (by omega)

theorem up_all {s : Array Nat} (F : Fin32 s) {hr d up : Nat} (h0 : 0 < hr) (h1 : hr ≤ B34) (hd1 : FST ≤ d) (hd : d ≤ 9218868437227405312) : stepsUp (stp s) (wid hr d) up (List.range (s.size - 1)) = stepsUp (stp s) (wid hr d) up (gps s hr) := by
  unfold stepsUp gps
  rw [List.filter_filter]
  refine List.filter_congr fun k hk => ?_
  rw [List.mem_range] at hk
  cases h : longer (stp s) (wid hr d) k with
  | false => simp
  | true => rw [longer_mono F h0 h1 hd1 hd (by omega) h]; simp

theorem range_cut (p : Nat → Bool) (lo : Nat) : ∀ j, (List.range (lo + j)).filter (fun k => decide (k < lo) && p k) = (List.range lo).filter p
  | 0 => List.filter_congr fun k hk => by rw [List.mem_range] at hk; simp [show k < lo from hk]
  | j + 1 => by
    rw [← Nat.add_assoc, List.range_succ, List.filter_append, range_cut p lo j]
    simp
    omega

theorem down_all {s : Array Nat} (F : Fin32 s) {hr d lo : Nat} (h0 : 0 < hr) (h1 : hr ≤ B34) (hd1 : FST ≤ d) (hd : d ≤ 9218868437227405312) (hlo : lo ≤ s.size - 1) : colD (stp s) (wid hr d) lo 0 = stepsDown (stp s) (wid hr d) lo (gps s hr) := by
  unfold colD stepsDown gps
  rw [List.filter_filter]
  congr 1
  have e : (List.range (s.size - 1)).filter (fun a => (decide (a < lo) && longer (stp s) (wid hr d) a) && longer (stp s) (wid hr FST) a) = (List.range (s.size - 1)).filter (fun a => decide (a < lo) && longer (stp s) (wid hr d) a) := by
    refine List.filter_congr fun k hk => ?_
    rw [List.mem_range] at hk
    cases h : longer (stp s) (wid hr d) k with
    | false => simp
    | true => rw [longer_mono F h0 h1 hd1 hd (by omega) h]; simp
  rw [e]
  obtain ⟨j, hj⟩ : ∃ j, s.size - 1 = lo + j := ⟨s.size - 1 - lo, by omega⟩
  rw [hj, range_cut]
  exact List.filter_congr fun k _ => by simp

/-! ### One strictly ascending list -/
theorem asc_unique : ∀ {C C' : List Nat}, C.Pairwise (· < ·) → C'.Pairwise (· < ·) → (∀ x, x ∈ C ↔ x ∈ C') → C = C'
  | [], [], _, _, _ => rfl
  | [], b :: l, _, _, h => by have := (h b).2 (List.mem_cons_self ..); cases this
  | a :: l, [], _, _, h => by have := (h a).1 (List.mem_cons_self ..); cases this
  | a :: l, b :: l', h1, h2, h => by
    obtain ⟨h3, h4⟩ := List.pairwise_cons.1 h1
    obtain ⟨h5, h6⟩ := List.pairwise_cons.1 h2
    have e : a = b := by
      rcases List.mem_cons.1 ((h a).1 (List.mem_cons_self ..)) with k | k
      · exact k
      · rcases List.mem_cons.1 ((h b).2 (List.mem_cons_self ..)) with k2 | k2
        · exact k2.symm
        · have := h5 a k; have := h3 b k2; omega
    subst e
    rw [asc_unique h4 h6 fun x => ?_]
    constructor
    · intro hx
      rcases List.mem_cons.1 ((h x).1 (List.mem_cons_of_mem _ hx)) with k | k
      · have := h3 x hx; omega
      · exact k
    · intro hx
      rcases List.mem_cons.1 ((h x).2 (List.mem_cons_of_mem _ hx)) with k | k
      · have := h5 x hx; omega
      · exact k

theorem depL_le {by_ : Nat → Option Nat → Nat} : ∀ (C : List Nat) (d : Nat), d ≤ 9218868437227405312 → (∀ x ∈ C, x ≤ 9218868437227405312) → depL by_ C d ≤ 9218868437227405312
  | [], d, h, _ => h
  | [x], d, h, _ => by
    unfold depL stepD
    split
    · exact Nat.max_le.2 ⟨h, Nat.min_le_right _ _⟩
    · exact h
  | x :: y :: r, d, h, hC => by
    have hy := hC y (by simp)
    unfold depL
    refine depL_le (y :: r) _ ?_ fun z hz => hC z (List.mem_cons_of_mem _ hz)
    unfold stepD
    split
    · exact Nat.max_le.2 ⟨h, Nat.le_trans (Nat.min_le_right _ _) hy⟩
    · exact h

theorem depR_le {s : Array Nat} {h2 H : Nat → Nat} {hr lo up : Nat} {g : List Nat} {v : Nat} {C : List Nat} (hC : ∀ x ∈ C, x ≤ 9218868437227405312) : depR s h2 H hr lo up g v C ≤ 9218868437227405312 := by
  unfold depR
  split
  · omega
  · exact depL_le _ _ (by omega) hC

/-! ### Half the range -/
theorem fkey_word (s : Bool) {r : Nat} (h : r ≤ 9218868437227405312) : fkey (D.word s r) = skey s r ∧ nanF (D.word s r) = false := by
  have e : D.word s r = (if s then 9223372036854775808 else 0) + r := by
    cases s
    · simp [word_false]
    · show _ = _; unfold Format.word; rw [D_sgn]; simp
  rw [nanF_iff, e]
  unfold fkey
  cases s with
  | false =>
    simp only [Bool.false_eq_true, if_false, Nat.zero_add]
    rw [Nat.mod_eq_of_lt (show r < 9223372036854775808 by omega), if_neg (by omega), Nat.div_eq_of_lt (by omega)]
    exact ⟨rfl, by simp; omega⟩
  | true =>
    simp only [if_true]
    rw [show (9223372036854775808 + r) % 9223372036854775808 = r by omega, if_neg (by omega), show (9223372036854775808 + r) / 9223372036854775808 = 1 by omega]
    exact ⟨rfl, by simp; omega⟩

theorem half_key {a b : Bool} {r t : Nat} (hr : r < 9218868437227405312) (ht : t < 9218868437227405312) (h : skey a r ≤ skey b t) : ∃ q p, D.div (D.word a r) two = some (D.word a q) ∧ D.div (D.word b t) two = some (D.word b p) ∧ q ≤ r ∧ p ≤ t ∧ skey a q ≤ skey b p := by
  obtain ⟨q, e1, n1⟩ := div_two a hr
  obtain ⟨p, e2, n2⟩ := div_two b ht
  obtain ⟨q', e3, l1⟩ := half_le a hr
  obtain ⟨p', e4, l2⟩ := half_le b ht
  have w1 : q' = q := by
    rw [e3] at e1
    have := Option.some.inj e1
    cases a <;> simpa [Format.word] using this
  have w2 : p' = p := by
    rw [e4] at e2
    have := Option.some.inj e2
    cases b <;> simpa [Format.word] using this
  subst w1 w2
  refine ⟨_, _, e1, e2, l1, l2, ?_⟩
  unfold skey at h ⊢
  cases a <;> cases b <;> simp only [Bool.false_eq_true, if_false, if_true] at h ⊢
  · have := n1.mono n2 (val_le 199 (show r ≤ t by omega)); omega
  · omega
  · omega
  · have := n2.mono n1 (val_le 199 (show t ≤ r by omega)); omega

def hrv (s : Array Nat) : Nat := if (D.order ((D.sub (hlv s (s.size - 1)) (hlv s 0)).getD 0) 0 == some .eq) = true then 4503599627370496 else (D.sub (hlv s (s.size - 1)) (hlv s 0)).getD 0

theorem hrv_ok {s : Array Nat} (F : Fin32 s) (n0 : 0 < s.size) (hs : SortedIn ltF 0 s.size s) : D.sub (hlv s (s.size - 1)) (hlv s 0) = some ((D.sub (hlv s (s.size - 1)) (hlv s 0)).getD 0) ∧ 0 < hrv s ∧ hrv s ≤ B34 := by
  obtain ⟨b, t, e1, ht⟩ := F (s.size - 1) (by omega)
  obtain ⟨a, r, e2, hr⟩ := F 0 n0
  have i1 : t < 9218868437227405312 := Nat.lt_of_le_of_lt ht (by decide)
  have i2 : r < 9218868437227405312 := Nat.lt_of_le_of_lt hr (by decide)
  have hk : skey a r ≤ skey b t := by
    rw [← (fkey_word a (Nat.le_of_lt i2)).1, ← (fkey_word b (Nat.le_of_lt i1)).1, ← e1, ← e2]
    by_cases h1 : s.size = 1
    · rw [h1]; exact Int.le_refl _
    · have := hs 0 (s.size - 1) (Nat.zero_le _) (by omega) (by omega)
      rw [ltF_eq] at this
      simp only [decide_eq_false_iff_not] at this
      omega
  obtain ⟨q, p, e3, e4, l1, l2, hk2⟩ := half_key i2 i1 hk
  have w1 : hlv s 0 = D.word a q := by unfold hlv; rw [e2, e3]; rfl
  have w2 : hlv s (s.size - 1) = D.word b p := by unfold hlv; rw [e1, e4]; rfl
  obtain ⟨sg, R, h1, h2, h3⟩ := sub_le b a (show p ≤ B32 by omega) (show q ≤ B32 by omega)
  have h3 := h3 hk2
  unfold hrv
  rw [w1, w2, h1]
  simp only [Option.getD_some]
  refine ⟨trivial, ?_⟩
  by_cases hR : R = 0
  · have : (D.order (D.word sg R) 0 == some .eq) = true := by subst hR; cases sg <;> decide
    rw [if_pos this]
    exact ⟨by omega, by decide⟩
  · have hsg : sg = false := by
      rcases h3 with h | h
      · exact h
      · exact absurd h hR
    subst hsg
    rw [word_false]
    have : (D.order R 0 == some .eq) = false := by rw [pos_eq (Nat.le_trans h2 (by decide)) (by omega)]; exact decide_eq_false hR
    rw [if_neg (by rw [this]; decide)]
    exact ⟨by omega, h2⟩
end Go.Proofs.YbulkdswcDoor
