import Derived.Test.YbulkdswcDoorF1
namespace Go.Proofs.YbulkdswcDoor
open Go Ieee

theorem log2_mul_pow {m : Nat} (hm : 0 < m) (j : Nat) : (m * 2 ^ j).log2 = m.log2 + j := by
  have h0 : m * 2 ^ j ≠ 0 := Nat.ne_of_gt (Nat.mul_pos hm (Nat.two_pow_pos _))
  have h1 := (Nat.log2_eq_iff (k := m.log2) (Nat.ne_of_gt hm)).1 rfl
  refine (Nat.log2_eq_iff h0).2 ⟨?_, ?_⟩
  · rw [Nat.pow_add]; exact Nat.mul_le_mul_right _ h1.1
  · rw [show m.log2 + j + 1 = m.log2 + 1 + j by omega, Nat.pow_add]; exact Nat.mul_lt_mul_of_pos_right h1.2 (Nat.two_pow_pos _)

/-- The place of the last digit kept, in units of 2^(leastPlace - c). -/
def ex (f : Format) (c V : Nat) : Nat := max (V.log2 - f.fractionBits) c

/-- R is the rung of V units of 2^(leastPlace - c), no bound set. -/
def IsR (f : Format) (c V R : Nat) : Prop := ∃ k, Rne V (ex f c V) k ∧ R = (ex f c V - c) * f.binade + k

theorem log2_mono {a b : Nat} (h : a ≤ b) : a.log2 ≤ b.log2 := by
  rcases Nat.eq_zero_or_pos a with rfl | ha
  · simp
  · exact (Nat.le_log2 (by omega)).2 (Nat.le_trans (Nat.log2_self_le (by omega)) h)

theorem IsR.mono {f : Format} {c V V' R R' : Nat} (h : IsR f c V R) (h' : IsR f c V' R') (h0 : 0 < V) (hV : V ≤ V') : R ≤ R' := by
  obtain ⟨k, hk, rfl⟩ := h
  obtain ⟨k', hk', rfl⟩ := h'
  have hl := log2_mono hV
  have hc : c ≤ ex f c V := Nat.le_max_right _ _
  rcases Nat.lt_or_ge (ex f c V) (ex f c V') with hlt | hge
  · -- a greater binade
    have e' : ex f c V' = V'.log2 - f.fractionBits := by
      unfold ex at hlt ⊢
      omega
    have hfb : f.fractionBits ≤ V'.log2 := by omega
    have hV' : 2 ^ (f.fractionBits + ex f c V') ≤ V' := by
      rw [e', show f.fractionBits + (V'.log2 - f.fractionBits) = V'.log2 by omega]
      exact Nat.log2_self_le (by omega)
    have hVu : V < 2 ^ (f.fractionBits + 1 + ex f c V) := by
      refine Nat.lt_of_lt_of_le (Nat.lt_log2_self (n := V)) (Nat.pow_le_pow_right (by omega) ?_)
      have : V.log2 - f.fractionBits ≤ ex f c V := Nat.le_max_left _ _
      omega
    have k1 : 2 ^ f.fractionBits ≤ k' := by
      refine (Rne.exact (2 ^ f.fractionBits) (ex f c V')).mono hk' ?_
      rw [← Nat.pow_add]; exact hV'
    have k2 : k ≤ 2 ^ (f.fractionBits + 1) := by
      refine hk.mono (Rne.exact (2 ^ (f.fractionBits + 1)) (ex f c V)) ?_
      rw [← Nat.pow_add]; exact Nat.le_of_lt hVu
    have e2 : 2 ^ (f.fractionBits + 1) = 2 * 2 ^ f.fractionBits := by rw [Nat.pow_succ, Nat.mul_comm]
    have h3 : (ex f c V - c + 1) * f.binade ≤ (ex f c V' - c) * f.binade := Nat.mul_le_mul_right _ (by omega)
    rw [Nat.add_mul] at h3
    have h4 : f.binade = 2 ^ f.fractionBits := rfl
    omega
  · have e : ex f c V = ex f c V' := by
      have : ex f c V ≤ ex f c V' := by unfold ex; omega
      omega
    rw [e] at hk ⊢
    have := hk.mono hk' hV
    omega

theorem IsR.unique {f : Format} {c V R R' : Nat} (h : IsR f c V R) (h' : IsR f c V R') (h0 : 0 < V) : R = R' := Nat.le_antisymm (h.mono h' h0 (Nat.le_refl _)) (h'.mono h h0 (Nat.le_refl _))

/-- What the model writes for a number. -/
theorem nearest_isR (f : Format) (neg : Bool) {m : Nat} (hm : 0 < m) (p : Int) (c j : Nat) (hj : f.leastPlace - c + j = p) :
    ∃ R, IsR f c (m * 2 ^ j) R ∧ f.nearest neg m p = f.word neg (min R f.infRung) := by
  obtain ⟨last, hlast⟩ : ∃ last, last = max (p + m.log2 - f.fractionBits) f.leastPlace := ⟨_, rfl⟩
  have hr := cut_rne neg (m <<< (p - last).toNat) (last - p).toNat
  have hn : f.nearest neg m p = f.word neg (min ((last - f.leastPlace).toNat * f.binade + Toward.even.cut neg (m <<< (p - last).toNat) (last - p).toNat) f.infRung) := by
    unfold Format.nearest
    rw [if_neg (by omega), hlast]
  generalize Toward.even.cut neg (m <<< (p - last).toNat) (last - p).toNat = kept at hr hn
  have hex : ex f c (m * 2 ^ j) = (last - (f.leastPlace - c)).toNat := by
    unfold ex
    rw [log2_mul_pow hm]
    omega
  have hl2 : f.leastPlace ≤ last := by omega
  clear hlast
  refine ⟨_, ⟨kept, ?_, rfl⟩, ?_⟩
  · rw [hex]
    rw [Nat.shiftLeft_eq] at hr
    rcases Int.le_total last p with h | h
    · have := hr.scale (last - (f.leastPlace - c)).toNat
      rw [Nat.mul_assoc, ← Nat.pow_add, show (p - last).toNat + (last - (f.leastPlace - c)).toNat = j by omega, show (last - p).toNat + (last - (f.leastPlace - ↑c)).toNat = (last - (f.leastPlace - c)).toNat by omega] at this
      exact this
    · have := hr.scale j
      rw [Nat.mul_assoc, ← Nat.pow_add, show (p - last).toNat + j = j by omega, show (last - p).toNat + j = (last - (f.leastPlace - c)).toNat by omega] at this
      exact this
  · rw [hn, hex, show (last - (f.leastPlace - ↑c)).toNat - c = (last - f.leastPlace).toNat by omega]

/-! ### What a rung is worth -/

def mag (f : Format) (r : Nat) : Nat := if r < f.binade then r else f.binade + r % f.binade
/-- How far its place lies above the least. -/
def up (f : Format) (r : Nat) : Nat := if r < f.binade then 0 else r / f.binade - 1
/-- In units of 2^(leastPlace - c). -/
def val (f : Format) (c r : Nat) : Nat := mag f r * 2 ^ (up f r + c)

theorem binade_pos (f : Format) : 0 < f.binade := Nat.two_pow_pos _

theorem mag_pos {f : Format} {r : Nat} (h : 0 < r) : 0 < mag f r := by
  have := binade_pos f
  unfold mag; split <;> omega

theorem val_pos {f : Format} {r : Nat} (c : Nat) (h : 0 < r) : 0 < val f c r := Nat.mul_pos (mag_pos h) (Nat.two_pow_pos _)
theorem val_zero (f : Format) (c : Nat) : val f c 0 = 0 := by
  have := binade_pos f
  simp [val, mag, this]

theorem read_word (f : Format) (hb : f.binade ≤ f.infRung) (neg : Bool) {r : Nat} (h : r < f.signWeight) : f.read (f.word neg r) =
    if r < f.infRung then .number neg (mag f r) (f.leastPlace + up f r) else if r = f.infRung then .infinity neg else .nan neg (r - f.infRung) := by
  have h1 : f.word neg r % f.signWeight = r := by
    unfold Format.word
    cases neg <;> simp [Nat.mod_eq_of_lt h]
  have h2 : (f.word neg r / f.signWeight % 2 == 1) = neg := by
    unfold Format.word
    have hp : 0 < f.signWeight := Nat.two_pow_pos _
    cases neg
    · simp [Nat.div_eq_of_lt h]
    · simp [Nat.add_div_left _ hp, Nat.div_eq_of_lt h]
  unfold Format.read
  simp only [h1, h2]
  unfold mag up
  by_cases c1 : r < f.binade
  · simp [c1, Nat.lt_of_lt_of_le c1 hb]
  · by_cases c2 : r < f.infRung
    · simp [c1, c2]
    · simp [c1, c2]

/-- A rung is its own nearest. -/
theorem isR_val (f : Format) (c : Nat) {r : Nat} (h : 0 < r) : IsR f c (val f c r) r := by
  have hb := binade_pos f
  have hl : (mag f r).log2 + up f r + c - f.fractionBits ≤ up f r + c ∧ (r < f.binade ∨ (mag f r).log2 = f.fractionBits) := by
    by_cases c1 : r < f.binade
    · refine ⟨?_, .inl c1⟩
      have : (mag f r).log2 < f.fractionBits := by
        unfold mag; rw [if_pos c1]
        exact (Nat.log2_lt (by omega)).2 c1
      omega
    · have : (mag f r).log2 = f.fractionBits := by
        unfold mag; rw [if_neg c1]
        have hm := Nat.mod_lt r hb
        refine (Nat.log2_eq_iff (by omega)).2 ⟨?_, ?_⟩
        · show f.binade ≤ _; omega
        · rw [Nat.pow_succ]; show _ < f.binade * 2; omega
      exact ⟨by omega, .inr this⟩
  have hex : ex f c (val f c r) = up f r + c := by
    unfold ex val
    rw [log2_mul_pow (mag_pos h)]
    rcases hl.2 with h1 | h1
    · have : up f r = 0 := by unfold up; rw [if_pos h1]
      omega
    · omega
  refine ⟨mag f r, ?_, ?_⟩
  · rw [hex]; exact Rne.exact _ _
  · rw [hex, Nat.add_sub_cancel]
    unfold mag up
    by_cases c1 : r < f.binade
    · simp [c1]
    · simp only [if_neg c1]
      have h1 := Nat.div_add_mod r f.binade
      have h2 : 1 ≤ r / f.binade := (Nat.one_le_div_iff hb).2 (by omega)
      have h3 : (r / f.binade - 1) * f.binade + f.binade = f.binade * (r / f.binade) := by
        rw [Nat.mul_comm f.binade, ← Nat.succ_mul]
        congr 1
        omega
      omega

theorem val_lt {f : Format} (c : Nat) {r r' : Nat} (h : r < r') : val f c r < val f c r' := by
  rcases Nat.eq_zero_or_pos r with rfl | h0
  · rw [val_zero]; exact val_pos c h
  · rcases Nat.lt_or_ge (val f c r) (val f c r') with hlt | hge
    · exact hlt
    · have := (isR_val f c (show 0 < r' by omega)).mono (isR_val f c h0) (val_pos c (by omega)) hge
      omega

theorem val_le {f : Format} (c : Nat) {r r' : Nat} (h : r ≤ r') : val f c r ≤ val f c r' := by
  rcases Nat.lt_or_ge r r' with h1 | h1
  · exact Nat.le_of_lt (val_lt c h1)
  · have : r = r' := by omega
    rw [this]; exact Nat.le_refl _
end Go.Proofs.YbulkdswcDoor
