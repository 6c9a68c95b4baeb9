import Derived.Test.YbulkdswcDoorT5
namespace Go.Proofs.YbulkdswcDoor
open Go Ieee Go.RowKit Go.Sort

/-- Where the cluster starts, going down over the long steps. -/
def botL (n : Nat) : List Nat → Nat
  | [] => 0
  | [e] => if modeF n ((e : Int) + 1) then 0 else e + 1
  | e :: k :: r => if modeF n ((e : Int) + 1 - ((k : Int) + 1)) then botL n (k :: r) else e + 1

/-- The long steps below lo, from t on, the greatest first. -/
def colD (H : Nat → Nat) (wd lo t : Nat) : List Nat := ((List.range lo).filter fun k => decide (t ≤ k) && longer H wd k).reverse

theorem colD_top {H : Nat → Nat} {wd lo : Nat} : colD H wd lo lo = [] := by
  unfold colD
  rw [List.reverse_eq_nil_iff, List.filter_eq_nil_iff]
  intro k hk
  rw [List.mem_range] at hk
  simp [show ¬ lo ≤ k by omega]

theorem filt_step (p : Nat → Bool) (t : Nat) : ∀ lo, t < lo → (List.range lo).filter (fun k => decide (t ≤ k) && p k) = if p t = true then t :: (List.range lo).filter (fun k => decide (t + 1 ≤ k) && p k) else (List.range lo).filter (fun k => decide (t + 1 ≤ k) && p k)
  | 0, h => by omega
  | lo + 1, h => by
    rw [List.range_succ, List.filter_append, List.filter_append]
    by_cases ht : t < lo
    · rw [filt_step p t lo ht]
      have e1 : [lo].filter (fun k => decide (t ≤ k) && p k) = [lo].filter (fun k => decide (t + 1 ≤ k) && p k) := by
        simp only [List.filter_cons, List.filter_nil, decide_eq_true (show t ≤ lo by omega), decide_eq_true (show t + 1 ≤ lo by omega)]
      rw [e1]
      split
      · rfl
      · rfl
    · have e : t = lo := by omega
      subst e
      have n1 : (List.range t).filter (fun k => decide (t ≤ k) && p k) = [] := by
        rw [List.filter_eq_nil_iff]; intro k hk; rw [List.mem_range] at hk; simp [show ¬ t ≤ k by omega]
      have n2 : (List.range t).filter (fun k => decide (t + 1 ≤ k) && p k) = [] := by
        rw [List.filter_eq_nil_iff]; intro k hk; rw [List.mem_range] at hk; simp [show ¬ t + 1 ≤ k by omega]
      rw [n1, n2]
      cases hp : p t <;> simp [hp]

theorem colD_step {H : Nat → Nat} {wd lo t : Nat} (h : t < lo) : colD H wd lo t = if longer H wd t = true then colD H wd lo (t + 1) ++ [t] else colD H wd lo (t + 1) := by
  unfold colD
  rw [filt_step (longer H wd) t lo h]
  split
  · rw [List.reverse_cons]
  · rfl

theorem colD_len {H : Nat → Nat} {wd lo t : Nat} : (colD H wd lo t).length ≤ lo := by
  unfold colD
  rw [List.length_reverse]
  exact Nat.le_trans (List.length_filter_le _ _) (by simp)

theorem colD_mem {H : Nat → Nat} {wd lo t k : Nat} (h : k ∈ colD H wd lo t) : k < lo := by
  unfold colD at h
  rw [List.mem_reverse] at h
  exact List.mem_range.1 (List.mem_filter.1 h).1

theorem botL_drop {n i e : Nat} {L : List Nat} (h : L[i]? = some e) : botL n (L.drop i) = if modeF n (match L[i + 1]? with | some k => (e : Int) + 1 - ((k : Int) + 1) | none => (e : Int) + 1) then botL n (L.drop (i + 1)) else e + 1 := by
  obtain ⟨hlt, e1⟩ := List.getElem?_eq_some_iff.1 h
  rw [List.drop_eq_getElem_cons hlt, e1]
  cases h2 : L[i + 1]? with
  | none =>
    have : L.length ≤ i + 1 := List.getElem?_eq_none_iff.1 h2
    rw [List.drop_of_length_le this]
    rfl
  | some k =>
    obtain ⟨hlt2, e2⟩ := List.getElem?_eq_some_iff.1 h2
    rw [List.drop_eq_getElem_cons hlt2, e2]
    rfl

set_option maxHeartbeats 8000000 in
set_option maxRecDepth 100000 in
theorem mbot_f {s : Array Nat} {h2 H : Nat → Nat} (F : Fl s h2 H) {w : World} {sb so cs hr d a wd lo : Nat} (hc : ∀ k, k < s.size → w.cell? ⟨sb, so + k, none⟩ = some (.float .f64 s[k]!)) (hsb : sb < w.heap.size) (hn : s.size ≤ 8200) (hn0 : 0 < s.size) (hlo : lo ≤ s.size - 1)
    (hd1 : D.mul two d = some a) (hd2 : D.mul a hr = some wd) :
    Calls Ybad.prog 26 #[.slice (some ⟨sb, so, none⟩) s.size cs, .float .f64 hr, .int .i64 lo, .float .f64 d] w fun e w' => e = .returned (.int .i64 (botL s.size (colD H wd lo 0) : Nat)) ∧ Below w.heap.size w w' := by
  have HC := (show Hid _ from hc)
  have cW := wide_f hd1 hd2 w
  have n1 : (s.size : Int) ≤ 8200 := by omega
  have n0 : (1 : Int) ≤ (s.size : Int) := by omega
  have u0 : (0 : Int) ≤ (lo : Int) := by omega
  have u1 : (lo : Int) < 8200 := by omega
  have HK0 : Hid (Ks w [] (some ⟨w.heap.size, 0, none⟩) 0 0 (w.alloc (.cells #[] 3))) := Ks.nil w w (Below.refl _ _)
  clear hc hd1 hd2
  go_enter Ybad.func26, Ybad.ntmps26
  go_wp2_with fail
  refine cW.mono ?_
  rintro e w1 ⟨rfl, rfl⟩
  clear cW
  go_upto_block 0 with fail
  generalize w1.alloc (.cells #[] 3) = W0 at HK0 ⊢
  go_cut [11, 12] from 24 to 42 (fun v11 _ wx => ∃ (p : Option Addr) (n c : Nat), v11 = .slice p n c ∧ Ks w1 (colD H wd lo 0) p n c wx)
  case first =>
    go_wp2_with fail
    go_loopw [11, 12] (fun v11 v12 wr => ∃ (t : Nat) (p : Option Addr) (n c : Nat), v11 = .slice p n c ∧ v12 = .int .i64 ((t : Int) - 1) ∧ t ≤ lo ∧ Ks w1 (colD H wd lo t) p n c wr) (fun _ v12 _ => (intOf v12 + 1).toNat)
    case atStart => exact ⟨lo, _, _, _, rfl, rfl, Nat.le_refl _, by rw [colD_top]; exact HK0.out⟩
    case round =>
      clear HK0 W0
      obtain ⟨t, p, n, c, rfl, rfl, htl, hK⟩ := hrel
      have HK := (show Hid _ from hK)
      cases t with
      | zero =>
        clear hK
        have k1 : ¬ (0 : Int) ≤ ((0 : Nat) : Int) - 1 := by omega
        go_wp2_with fail
        go_meet
        case rel => exact ⟨p, n, c, rfl, HK.out⟩
      | succ k =>
        have e1 : ((k + 1 : Nat) : Int) - 1 = (k : Int) := by omega
        rw [e1]
        have k0 : (0 : Int) ≤ (k : Int) := by omega
        have k1 : (k : Int) + 1 < (s.size : Int) := by omega
        have hw1 : IntKind.i64.wrap ((k : Int) + 1) = (k : Int) + 1 := wrapI (by omega) (by omega)
        have cH := half_f (w := wr) (sb := sb) (so := so) (cs := cs) (k := k) F (fun k hk => (hK.below.cell (p := ⟨sb, so + k, none⟩) hsb).trans (HC.out k hk)) (by omega) (by omega)
        have hlen : n ≤ 9000 := by have h1 := hK.len; have := colD_len (H := H) (wd := wd) (lo := lo) (t := k + 1); omega
        have HR := (show Hid _ from colD_step (H := H) (wd := wd) (lo := lo) (t := k) (by omega))
        have HL : Hid (longer H wd k = (D.order (H k) wd == some .gt)) := rfl
        clear hK e1
        generalize H k = r at *
        go_wp2_with fail
        refine cH.mono ?_
        rintro e W1 ⟨rfl, q, hq⟩
        have HK1 : Hid (Ks w1 (colD H wd lo (k + 1)) p n c W1) := by rw [hq]; exact HK.out.draw q
        clear cH hq HK
        go_upto_if 38 with fail
        cases hl : (D.order r wd == some .gt)
        · rw [show (FloatKind.f64.format.order r wd == some Ordering.gt) = false from hl]
          rw [HL.out, hl] at HR
          clear HL hl
          go_wp2
          go_roundw
          case rel =>
            go_light
            exact ⟨k, p, n, c, rfl, by go_num, by omega, by rw [HR.out]; exact HK1.out⟩
          case measure => simp [intOf]
        · rw [show (FloatKind.f64.format.order r wd == some Ordering.gt) = true from hl]
          rw [HL.out, hl] at HR
          clear HL hl
          obtain ⟨g, c2, w2, ha, hK2⟩ := HK1.out.push hlen k
          have HA := (show Hid _ from ha)
          have HK2 := (show Hid _ from hK2)
          clear ha hK2
          go_wp2_with (at_builtin; refine wpList_append_run rfl (.tmp 39) (.tmp 41) 27 rfl _ _ _ _ rfl rfl HA.out ?_)
          go_roundw
          case rel =>
            go_light
            exact ⟨k, _, _, _, rfl, by go_num, by omega, by rw [HR.out]; exact HK2.out⟩
          case measure => simp [intOf]
  case rest =>
    obtain ⟨p, n, c, rfl, hK⟩ := hcut
    obtain ⟨W2, hW⟩ : ∃ W : World, W = wc := ⟨_, rfl⟩
    rw [← hW] at hK ⊢
    have HK := (show Hid _ from hK)
    have HM : Hid (∀ k ∈ colD H wd lo 0, k < lo) := fun k hk => colD_mem hk
    have nn : n ≤ 8200 := by have h1 := hK.len; have := colD_len (H := H) (wd := wd) (lo := lo) (t := 0); omega
    obtain ⟨L, hLe⟩ : ∃ L, colD H wd lo 0 = L := ⟨_, rfl⟩
    rw [hLe] at HK HM
    have HLE := (show Hid _ from hLe)
    clear hK hW HK0 hLe
    have n2 : (n : Int) ≤ 8200 := by omega
    have n3 : (0 : Int) ≤ (n : Int) := by omega
    go_wp2_with fail
    go_loopw [13] (fun v13 wr => ∃ i : Nat, i ≤ n ∧ v13 = .int .i64 i ∧ botL s.size L = botL s.size (L.drop i) ∧ Ks w1 L p n c wr) (fun v13 _ => n - (intOf v13).toNat)
    case atStart => exact ⟨0, Nat.zero_le _, rfl, rfl, HK.out⟩
    case round =>
      clear HK
      obtain ⟨i, hi, rfl, hT, hK⟩ := hrel
      have HK := (show Hid _ from And.intro hT hK)
      have i0 : (0 : Int) ≤ (i : Int) := by omega
      have hw1 : IntKind.i64.wrap ((i : Int) + 1) = (i : Int) + 1 := wrapI (by omega) (by omega)
      by_cases hin : i < n
      · have i1 : (i : Int) < (n : Int) := by omega
        obtain ⟨e, he⟩ : ∃ e, L[i]? = some e := ⟨_, List.getElem?_eq_getElem (by have := hK.len; omega)⟩
        obtain ⟨g, rfl, ce⟩ := hK.at_ he
        have hem := HM.out e (List.mem_of_getElem? he)
        obtain ⟨nx, hnx⟩ : ∃ nx : Int, (match L[i + 1]? with | some k => (e : Int) + 1 - ((k : Int) + 1) | none => (e : Int) + 1) = nx := ⟨_, rfl⟩
        have HT : Hid (botL s.size (L.drop i) = if modeF s.size nx then botL s.size (L.drop (i + 1)) else e + 1) := by
          show _ = _
          rw [← hnx]; exact botL_drop he
        have HNX := (show Hid _ from hnx)
        have e0 : (0 : Int) ≤ (e : Int) := by omega
        have e1 : (e : Int) < 8200 := by omega
        clear he hT hnx
        go_upto_if 59 with fail
        go_cut [15] from 59 to 67 (fun v wx => v = .int .i64 nx ∧ wr = wx)
        case first =>
          by_cases hin2 : i + 1 < n
          · have b1 : decide ((i : Int) + 1 < (n : Int)) = true := decide_eq_true (by omega)
            rw [b1]
            clear b1
            have b2 : (i : Int) + 1 < (n : Int) := by omega
            obtain ⟨k, hk⟩ : ∃ k, L[i + 1]? = some k := ⟨_, List.getElem?_eq_getElem (by have := hK.len; omega)⟩
            obtain ⟨g2, e2, ck⟩ := hK.at_ hk
            cases e2
            have hkm := HM.out k (List.mem_of_getElem? hk)
            have kk0 : (0 : Int) ≤ (k : Int) := by omega
            have kk1 : (k : Int) < 8200 := by omega
            have HX : Hid ((e : Int) + 1 - ((k : Int) + 1) = nx) := by have := HNX.out; rw [hk] at this; exact this
            clear hk hK HNX
            go_wp2_with fail
            go_meet
            case rel => exact ⟨by rw [← HX.out], rfl⟩
          · have b1 : decide ((i : Int) + 1 < (n : Int)) = false := decide_eq_false (by omega)
            rw [b1]
            clear b1
            have HX : Hid ((e : Int) + 1 = nx) := by have := HNX.out; rw [List.getElem?_eq_none (by have := hK.len; omega)] at this; exact this
            clear hK HNX
            go_wp2_with fail
            go_meet
            case rel => exact ⟨by rw [← HX.out], rfl⟩
        case rest =>
          obtain ⟨rfl, rfl⟩ := hcut
          have cM := mode_f s.size nx wr
          clear hK HNX
          cases hm : modeF s.size nx
          · rw [hm] at cM
            go_wp2_with fail
            refine cM.mono ?_
            rintro e2 W4 ⟨rfl, rfl⟩
            have HF : Hid (botL s.size L = e + 1) := by show _ = _; rw [HK.out.1, HT.out, hm]; rfl
            clear cM
            go_wp2
            go_ret
            exact ⟨by rw [HLE.out, HF.out]; rfl, HK.out.2.below⟩
          · rw [hm] at cM
            go_wp2_with fail
            refine cM.mono ?_
            rintro e2 W4 ⟨rfl, rfl⟩
            have HF : Hid (botL s.size L = botL s.size (L.drop (i + 1))) := by show _ = _; rw [HK.out.1, HT.out, hm]; rfl
            clear cM
            go_wp2
            go_roundw
            case rel =>
              go_light
              exact ⟨i + 1, by omega, by go_num, HF.out, HK.out.2⟩
            case measure => simp [intOf]; omega
      · have i1 : ¬ (i : Int) < (n : Int) := by omega
        have HF : Hid (botL s.size L = 0) := by
          show _ = _
          rw [hT, List.drop_of_length_le (by have := hK.len; omega)]; rfl
        clear hT hK
        go_wp2
        go_ret
        exact ⟨by rw [HLE.out, HF.out]; rfl, HK.out.2.below⟩
end Go.Proofs.YbulkdswcDoor
