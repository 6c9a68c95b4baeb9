/-
  The shelf's contracts at this dump, in plain words (laid by the kit's own tools).
-/
import Derived.Ground.Names2Prog
import Derived.Shelf.Slices.Clone
import Derived.Ground.SlbCloneProg
import Derived.Shelf.Bytes.SlClone
import Derived.Ground.SlgnProg
import Derived.Shelf.SlicesE.Clone
import Derived.Ground.SlgmProg
import Derived.Shelf.SortM.Plain
import Derived.Shelf.SortM.SortNone
import Derived.Test.YbulkdsyuProg
namespace Go.Proofs
open Go.Shelf
def Yba.laysNm215_ren : Go.Shelf.Ren := ⟨fun | 15 => 12 | n => n, fun | 22 => 55 | 3 => 3 | 4 => 4 | n => n, fun | n => n⟩
theorem Yba.laysNm215 : Go.Proofs.Lays2.n15 Yba.prog Yba.laysNm215_ren := {
  mixed := by kernel_rfl
  f15 := Yba.func12.trans (congrArg some (by kernel_rfl))
  t3 := Yba.underlying3
  a3 := Yba.isAgg3
  z3 := Yba.sizeOf3
  v3 := Yba.zeroValue3
  t4 := Yba.underlying4
  a4 := Yba.isAgg4
  z4 := Yba.sizeOf4
  v4 := Yba.zeroValue4
  t22 := Yba.underlying55
  a22 := Yba.isAgg55
  z22 := Yba.sizeOf55
  v22 := Yba.zeroValue55
  i3 := by kernel_rfl }
open Go.RowKit Go.Lib in
/-- slices.Clone at []int: "Clone returns a copy of the slice. The elements are copied using assignment, so this is a shallow clone. The result may have additional unused capacity. The result preserves the nilness of s.": OF A SLICE THAT IS NOT nil IT RETURNS A SLICE THAT IS NOT nil, OF THE SAME ELEMENTS, IN MEMORY OF THE CALL's OWN: in the how-to's words (6f): 'w'.ownsRow B e 1 v' n cells': v' begins at the head of a row among the blocks from B on (B: the heap's size at the call), not frozen, whose first cells are the elements · 'Below B w w'': below B all is as it was. The capacity is whatever the run-time gives. 'zs': what the cells behind the slice's address hold; 'zs.take n': its elements. (LAID: no walk: one application.) -/
theorem Yba.slices_Clone_int (b off n c : Nat) (zs : List Int) (w : World) (hz : n ≤ zs.length) (hbig : n * 8 ≤ 140737488355328) (hc : ∀ j, j < zs.length → w.cell? ⟨b, off + j, none⟩ = some (.int .i64 (zs.getD j 0))) :
    Calls Yba.prog 12 #[.slice (some ⟨b, off, none⟩) n c] w fun e w' => ∃ v', e = .returned v' ∧ w'.ownsRow w.heap.size 3 1 v' n ((zs.take n).map (Value.int .i64)) ∧ v' ≠ .slice none 0 0 ∧ Below w.heap.size w w' := Any.slices_Clone_int Yba.laysNm215 b off n c zs w hz hbig hc
open Go.RowKit Go.Lib in
/-- The same at nil: nil comes back; the world is as it was. (LAID: no walk: one application.) -/
theorem Yba.slices_Clone_int_nil (n c : Nat) (w : World) :
    Calls Yba.prog 12 #[.slice none n c] w fun e w' => e = .returned (.slice none 0 0) ∧ w' = w := Any.slices_Clone_int_nil Yba.laysNm215 n c w
open Go.RowKit Go.Lib in
/-- The same at a slice of length 0 that is not nil, WHATEVER ITS ADDRESS (no cell is asked for): a slice that is not nil and owns nothing comes back. (LAID: no walk: one application.) -/
theorem Yba.slices_Clone_int_zero (a : Addr) (c : Nat) (w : World) :
    Calls Yba.prog 12 #[.slice (some a) 0 c] w fun e w' => ∃ v', e = .returned v' ∧ w'.ownsRow w.heap.size 3 1 v' 0 [] ∧ v' ≠ .slice none 0 0 ∧ Below w.heap.size w w' := Any.slices_Clone_int_zero Yba.laysNm215 a c w
def Yba.laysSlK4_ren : Go.Shelf.Ren := ⟨fun | 4 => 7 | n => n, fun | 22 => 33 | 4 => 4 | 5 => 5 | n => n, fun | n => n⟩
theorem Yba.laysSlK4 : Go.Proofs.SlLaysK.n4 Yba.prog Yba.laysSlK4_ren := {
  mixed := by kernel_rfl
  f4 := Yba.func7.trans (congrArg some (by kernel_rfl))
  t4 := Yba.underlying4
  a4 := Yba.isAgg4
  z4 := Yba.sizeOf4
  v4 := Yba.zeroValue4
  t22 := Yba.underlying33
  a22 := Yba.isAgg33
  z22 := Yba.sizeOf33
  v22 := Yba.zeroValue33
  t5 := Yba.underlying5
  i5 := by kernel_rfl }
open Go.RowKit Go.Lib in
/-- bytes.Clone: "Clone returns a copy of b[:len(b)]. The result may have additional unused capacity.": OF A SLICE THAT IS NOT nil IT RETURNS A SLICE THAT IS NOT nil, OF THE SAME BYTES, IN MEMORY OF THE CALL's OWN: in the how-to's words (6f): 'w'.ownsRow B e 1 v' n cells' · 'Below B w w'', B the heap's size at the call. b AT WHATEVER ADDRESS, its cells as 'open_ints' hands them ('a.add i'; the numbers 'xs'). No byte: no cell is asked for. (LAID: no walk: one application.) -/
theorem Yba.bytes_Clone_at (a : Addr) (n c : Nat) (xs : List Int) (w : World) (hx : xs.length = n) (hbig : n ≤ 140737488355328) (hc : ∀ i, i < n → w.cell? (a.add i) = some (.int .u8 (xs.getD i 0))) :
    Calls Yba.prog 7 #[.slice (some a) n c] w fun e w' => ∃ v', e = .returned v' ∧ w'.ownsRow w.heap.size 5 1 v' n (xs.map (Value.int .u8)) ∧ v' ≠ .slice none 0 0 ∧ Below w.heap.size w w' := Any.bytes_Clone_at Yba.laysSlK4 a n c xs w hx hbig hc
open Go.RowKit Go.Lib in
/-- "Clone(nil) returns nil.": the world is as it was. (LAID: no walk: one application.) -/
theorem Yba.bytes_Clone_nil (n c : Nat) (w : World) :
    Calls Yba.prog 7 #[.slice none n c] w fun e w' => e = .returned (.slice none 0 0) ∧ w' = w := Any.bytes_Clone_nil Yba.laysSlK4 n c w
def Yba.laysSlE041_f12_ren : Go.Shelf.Ren := ⟨fun | 41 => 12 | n => n, fun | 22 => 55 | 23 => 3 | 4 => 4 | n => n, fun | n => n⟩
theorem Yba.laysSlE041_f12 : Go.Proofs.SlLaysE0.n41 Yba.prog Yba.laysSlE041_f12_ren := {
  mixed := by kernel_rfl
  f41 := ⟨Yba.f12.name, by decide, Yba.func12.trans (congrArg some (by kernel_rfl))⟩
  t4 := Yba.underlying4
  a4 := Yba.isAgg4
  z4 := Yba.sizeOf4
  v4 := Yba.zeroValue4
  t22 := Yba.underlying55
  a22 := Yba.isAgg55
  z22 := Yba.sizeOf55
  v22 := Yba.zeroValue55 }
open Go.RowKit Go.Lib in
/-- slices.Clone: "Clone returns a copy of the slice. The elements are copied using assignment, so this is a shallow clone. The result may have additional unused capacity. The result preserves the nilness of s.": OF A SLICE THAT IS NOT nil IT RETURNS A SLICE THAT IS NOT nil, OF THE SAME CELLS, IN MEMORY OF THE CALL's OWN ('ownsRow': the how-to's 6f); below the heap's size at the call all is as it was. (LAID AT THE INSTANCE 'slices.Clone[[]int,int]': no walk: one application.) -/
theorem Yba.slices_Clone (i0 : TypeInfo) (z : Value) (size bytes : Nat) (hi : Yba.prog.info? 3 = some i0) (hz0 : i0.zero = some z) (hz1 : i0.size = size) (hz2 : i0.bytes = bytes) (hzs : z.cells.size = size) (hsz : 0 < size) (z23 : ∀ w, (Go.sizeOf 3).run Yba.prog w = .ok size w) (b off n c : Nat) (news : List Value) (w : World) (hl : news.length = n * size) (hn : n ≤ maxLen) (hbig : n * bytes ≤ 140737488355328) (hc : ∀ j u, news[j]? = some u → w.cell? ⟨b, off + j, none⟩ = some u) (h1 : ∀ u ∈ news, u.oneCell' = true) :
    Calls Yba.prog 12 #[.slice (some ⟨b, off, none⟩) n c] w fun e w' => ∃ v', e = .returned v' ∧ w'.ownsRow w.heap.size 3 size v' n news ∧ v' ≠ .slice none 0 0 ∧ Below w.heap.size w w' := AnyE.slices_Clone Yba.laysSlE041_f12 i0 z size bytes hi hz0 hz1 hz2 hzs hsz z23 b off n c news w hl hn hbig hc h1
open Go.RowKit Go.Lib in
/-- The same at nil: nil comes back; the world is as it was; nothing is asked of the element's type. (LAID AT THE INSTANCE 'slices.Clone[[]int,int]': no walk: one application.) -/
theorem Yba.slices_Clone_nil (n c : Nat) (w : World) :
    Calls Yba.prog 12 #[.slice none n c] w fun e w' => e = .returned (.slice none 0 0) ∧ w' = w := AnyE.slices_Clone_nil Yba.laysSlE041_f12 n c w
def Yba.laysSlM5_f22_ren : Go.Shelf.Ren := ⟨fun | 5 => 22 | 8 => 26 | 7 => 25 | 19 => 36 | 20 => 37 | 10 => 27 | 11 => 28 | 12 => 29 | 13 => 30 | 14 => 31 | 15 => 32 | 16 => 33 | 17 => 34 | 18 => 35 | 30 => 38 | 31 => 39 | 32 => 40 | 33 => 41 | 34 => 42 | 35 => 43 | 40 => 44 | n => n, fun | 23 => 55 | 25 => 3 | 3 => 3 | 32 => 23 | 22 => 55 | 0 => 0 | 44 => 102 | 46 => 65 | 4 => 4 | 36 => 167 | 35 => 166 | 41 => 172 | 5 => 5 | 9 => 9 | 53 => 176 | 57 => 180 | 63 => 182 | 64 => 29 | n => n, fun | n => n⟩
theorem Yba.laysSlM5_f22 : Go.Proofs.SlLaysM.n5 Yba.prog Yba.laysSlM5_f22_ren := {
  mixed := by kernel_rfl
  f5 := ⟨Yba.f22.name, by decide, Yba.func22.trans (congrArg some (by kernel_rfl))⟩
  f7 := ⟨Yba.f25.name, by decide, Yba.func25.trans (congrArg some (by kernel_rfl))⟩
  f8 := Yba.func26.trans (congrArg some (by kernel_rfl))
  f10 := ⟨Yba.f27.name, by decide, Yba.func27.trans (congrArg some (by kernel_rfl))⟩
  f11 := ⟨Yba.f28.name, by decide, Yba.func28.trans (congrArg some (by kernel_rfl))⟩
  f12 := ⟨Yba.f29.name, by decide, Yba.func29.trans (congrArg some (by kernel_rfl))⟩
  f13 := ⟨Yba.f30.name, by decide, Yba.func30.trans (congrArg some (by kernel_rfl))⟩
  f14 := ⟨Yba.f31.name, by decide, Yba.func31.trans (congrArg some (by kernel_rfl))⟩
  f15 := ⟨Yba.f32.name, by decide, Yba.func32.trans (congrArg some (by kernel_rfl))⟩
  f16 := ⟨Yba.f33.name, by decide, Yba.func33.trans (congrArg some (by kernel_rfl))⟩
  f17 := ⟨Yba.f34.name, by decide, Yba.func34.trans (congrArg some (by kernel_rfl))⟩
  f18 := ⟨Yba.f35.name, by decide, Yba.func35.trans (congrArg some (by kernel_rfl))⟩
  f19 := Yba.func36.trans (congrArg some (by kernel_rfl))
  f20 := Yba.func37.trans (congrArg some (by kernel_rfl))
  f30 := ⟨Yba.f38.name, by decide, Yba.func38.trans (congrArg some (by kernel_rfl))⟩
  f31 := Yba.func39.trans (congrArg some (by kernel_rfl))
  f32 := Yba.func40.trans (congrArg some (by kernel_rfl))
  f33 := ⟨Yba.f41.name, by decide, Yba.func41.trans (congrArg some (by kernel_rfl))⟩
  f34 := ⟨Yba.f42.name, by decide, Yba.func42.trans (congrArg some (by kernel_rfl))⟩
  f35 := ⟨Yba.f43.name, by decide, Yba.func43.trans (congrArg some (by kernel_rfl))⟩
  f40 := ⟨Yba.f44.name, by decide, Yba.func44.trans (congrArg some (by kernel_rfl))⟩
  t0 := Yba.underlying0
  a0 := Yba.isAgg0
  z0 := Yba.sizeOf0
  v0 := Yba.zeroValue0
  t3 := Yba.underlying3
  a3 := Yba.isAgg3
  z3 := Yba.sizeOf3
  v3 := Yba.zeroValue3
  t4 := Yba.underlying4
  a4 := Yba.isAgg4
  z4 := Yba.sizeOf4
  v4 := Yba.zeroValue4
  t5 := Yba.underlying5
  a5 := Yba.isAgg5
  z5 := Yba.sizeOf5
  v5 := Yba.zeroValue5
  t9 := Yba.underlying9
  a9 := Yba.isAgg9
  z9 := Yba.sizeOf9
  v9 := Yba.zeroValue9
  t22 := Yba.underlying55
  a22 := Yba.isAgg55
  z22 := Yba.sizeOf55
  v22 := Yba.zeroValue55
  t23 := Yba.underlying55
  a23 := Yba.isAgg55
  z23 := Yba.sizeOf55
  v23 := Yba.zeroValue55
  t25 := Yba.underlying3
  a25 := Yba.isAgg3
  z25 := Yba.sizeOf3
  v25 := Yba.zeroValue3
  t32 := Yba.underlying23
  a32 := Yba.isAgg23
  z32 := Yba.sizeOf23
  v32 := Yba.zeroValue23
  t35 := Yba.underlying166
  a35 := Yba.isAgg166
  z35 := Yba.sizeOf166
  v35 := Yba.zeroValue166
  t36 := Yba.underlying167
  a36 := Yba.isAgg167
  z36 := Yba.sizeOf167
  v36 := Yba.zeroValue167
  t41 := Yba.underlying172
  a41 := Yba.isAgg172
  z41 := Yba.sizeOf172
  v41 := Yba.zeroValue172
  t44 := Yba.underlying102
  a44 := Yba.isAgg102
  z44 := Yba.sizeOf102
  v44 := Yba.zeroValue102
  t46 := Yba.underlying65
  a46 := Yba.isAgg65
  z46 := Yba.sizeOf65
  v46 := Yba.zeroValue65
  t53 := Yba.underlying176
  a53 := Yba.isAgg176
  z53 := Yba.sizeOf176
  v53 := Yba.zeroValue176
  t57 := Yba.underlying180
  a57 := Yba.isAgg180
  z57 := Yba.sizeOf180
  v57 := Yba.zeroValue180
  t63 := Yba.underlying182
  a63 := Yba.isAgg182
  z63 := Yba.sizeOf182
  v63 := Yba.zeroValue182
  t64 := Yba.underlying29
  a64 := Yba.isAgg29
  z64 := Yba.sizeOf29
  v64 := Yba.zeroValue29 }
open Go.Sort Go.RowKit in
theorem Yba.slices_Sort_int (blk off cap : Nat) (zs : List Int) (w : World) (hH : Holds (Value.int .i64) w blk off zs.toArray) (hblk : blk < w.heap.size) (hsz : zs.length < 4611686018427387904) :
    Calls Yba.prog 22 #[.slice (some ⟨blk, off, none⟩) zs.length cap] w fun e w' =>
      e = .returned (.tuple #[]) ∧ ∃ n os, w' = grow (putRow (Value.int .i64) (Sort.ahead w n) blk off (zs.mergeSort fun x y => decide (x ≤ y)).toArray) os := AnyM.slices_Sort_int Yba.laysSlM5_f22 blk off cap zs w hH hblk hsz
open Go.RowKit Go.Sort in
/-- .. and plain. (LAID AT THE INSTANCE 'slices.Sort[[]int,int]': no walk: one application.) -/
theorem Yba.slices_Sort_int_none (p : Option Addr) (cap : Nat) (w : World) :
    Calls Yba.prog 22 #[.slice p 0 cap] w fun e w' => e = .returned (.tuple #[]) ∧ w' = w := AnyM.slices_Sort_int_none Yba.laysSlM5_f22 p cap w
end Go.Proofs
