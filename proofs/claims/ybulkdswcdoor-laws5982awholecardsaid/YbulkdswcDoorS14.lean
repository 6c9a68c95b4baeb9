import Derived.Test.YbulkdswcDoorS13
import Derived.Test.YbulkdswcDoorShelf
namespace Go.Proofs.YbulkdswcDoor
open Go Ieee Go.RowKit Go.Sort

theorem bitLenAux_le : ∀ f x, Lib.bitLenAux f x ≤ f
  | 0, _ => Nat.le_refl _
  | f + 1, x => by
    rw [Lib.bitLenAux]
    split
    · omega
    · have := bitLenAux_le f (x / 2)
      omega
theorem bitLen_le (n : Nat) : Lib.bitLen n ≤ 64 := bitLenAux_le 64 n

set_option maxHeartbeats 4000000 in
set_option maxRecDepth 100000 in
theorem sort_f (blk off cap : Nat) (d : Array Nat) (w : World) (hH : Holds encF w blk off d) (hblk : blk < w.heap.size) (hsz : d.size < 4611686018427387904) :
    Calls Ybad.prog 5 #[.slice (some ⟨blk, off, none⟩) d.size cap] w (Srt w blk off 0 d.size d) := by
  have cL := Ybad.bits_Len (d.size : Int) w (by omega) (by omega)
  have hb := bitLen_le d.size
  have cP := fun lim (hl : lim < 4611686018427387904) => pdq_f (d.size + 1) blk off cap 0 d.size lim d w (by omega) hH hblk (by omega) (Nat.le_refl _) hsz hl (.inl rfl)
  rw [Int.toNat_natCast] at cL
  generalize Lib.bitLen d.size = L at *
  have cQ := cP L (by omega)
  have n0 : (0 : Int) ≤ (d.size : Int) := by omega
  have n1 : (d.size : Int) < 4611686018427387904 := by omega
  clear cP hH hblk hsz hb
  go_enter Ybad.func5, Ybad.ntmps5
  go_wp2_with fail
  refine cL.mono ?_
  rintro e w1 ⟨rfl, rfl⟩
  go_wp2_with fail
  refine cQ.mono ?_
  rintro e w2 ⟨rfl, h⟩
  have H := (show Hid _ from h)
  clear h cQ cL
  go_wp2
  go_end0
  exact ⟨rfl, H.out⟩
end Go.Proofs.YbulkdswcDoor
