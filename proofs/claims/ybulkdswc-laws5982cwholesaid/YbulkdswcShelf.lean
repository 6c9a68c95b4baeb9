/-
  The shelf's contracts at this dump, in plain words (laid by the kit's own tools).
-/
import Derived.Ground.SlgnProg
import Derived.Shelf.SlicesG.Clone
import Derived.Shelf.SlicesE.Clone
import Derived.Ground.SlgmProg
import Derived.Shelf.SortM.Plain
import Derived.Shelf.SortM.SortNone
import Derived.Test.YbulkdswcProg
namespace Go.Proofs
open Go.Shelf
def Yba.laysSlN41_f4_ren : Go.Shelf.Ren := ⟨fun | 41 => 4 | n => n, fun | 22 => 22 | 23 => 2 | 4 => 4 | n => n, fun | n => n⟩
theorem Yba.laysSlN41_f4 : Go.Proofs.SlLaysN.n41 Yba.prog Yba.laysSlN41_f4_ren := {
  mixed := by kernel_rfl
  f41 := ⟨Yba.f4.name, by decide, Yba.func4.trans (congrArg some (by kernel_rfl))⟩
  t4 := Yba.underlying4
  a4 := Yba.isAgg4
  z4 := Yba.sizeOf4
  v4 := Yba.zeroValue4
  t22 := Yba.underlying22
  a22 := Yba.isAgg22
  z22 := Yba.sizeOf22
  v22 := Yba.zeroValue22
  t23 := Yba.underlying2
  a23 := Yba.isAgg2
  z23 := Yba.sizeOf2
  v23 := Yba.zeroValue2
  i23 := by kernel_rfl }
open Go.RowKit Go.Lib in
/-- slices.Clone at []int: "Clone returns a copy of the slice. The elements are copied using assignment, so this is a shallow clone. The result may have additional unused capacity. The result preserves the nilness of s.": OF A SLICE THAT IS NOT nil IT RETURNS A SLICE THAT IS NOT nil, OF THE SAME ELEMENTS, IN MEMORY OF THE CALL's OWN: in the how-to's words (6f): 'w'.ownsRow B e 1 v' n cells': v' begins at the head of a row among the blocks from B on (B: the heap's size at the call), not frozen, whose first cells are the elements · 'Below B w w'': below B all is as it was. The capacity is whatever the run-time gives. 'zs': what the cells behind the slice's address hold; 'zs.take n': its elements. (LAID AT THE INSTANCE 'slices.Clone[[]int64,int64]': no walk: one application.) -/
theorem Yba.slices_Clone_int (b off n c : Nat) (zs : List Int) (w : World) (hz : n ≤ zs.length) (hbig : n * 8 ≤ 140737488355328) (hc : ∀ j, j < zs.length → w.cell? ⟨b, off + j, none⟩ = some (.int .i64 (zs.getD j 0))) :
    Calls Yba.prog 4 #[.slice (some ⟨b, off, none⟩) n c] w fun e w' => ∃ v', e = .returned v' ∧ w'.ownsRow w.heap.size 2 1 v' n ((zs.take n).map (Value.int .i64)) ∧ v' ≠ .slice none 0 0 ∧ Below w.heap.size w w' := AnyG.slices_Clone_int Yba.laysSlN41_f4 b off n c zs w hz hbig hc
open Go.RowKit Go.Lib in
/-- The same at nil: nil comes back; the world is as it was. (LAID AT THE INSTANCE 'slices.Clone[[]int64,int64]': no walk: one application.) -/
theorem Yba.slices_Clone_int_nil (n c : Nat) (w : World) :
    Calls Yba.prog 4 #[.slice none n c] w fun e w' => e = .returned (.slice none 0 0) ∧ w' = w := AnyG.slices_Clone_int_nil Yba.laysSlN41_f4 n c w
open Go.RowKit Go.Lib in
/-- The same at a slice of length 0 that is not nil, WHATEVER ITS ADDRESS (no cell is asked for): a slice that is not nil and owns nothing comes back. (LAID AT THE INSTANCE 'slices.Clone[[]int64,int64]': no walk: one application.) -/
theorem Yba.slices_Clone_int_zero (a : Addr) (c : Nat) (w : World) :
    Calls Yba.prog 4 #[.slice (some a) 0 c] w fun e w' => ∃ v', e = .returned v' ∧ w'.ownsRow w.heap.size 2 1 v' 0 [] ∧ v' ≠ .slice none 0 0 ∧ Below w.heap.size w w' := AnyG.slices_Clone_int_zero Yba.laysSlN41_f4 a c w
def Yba.laysSlE041_f4_ren : Go.Shelf.Ren := ⟨fun | 41 => 4 | n => n, fun | 22 => 22 | 23 => 2 | 4 => 4 | n => n, fun | n => n⟩
theorem Yba.laysSlE041_f4 : Go.Proofs.SlLaysE0.n41 Yba.prog Yba.laysSlE041_f4_ren := {
  mixed := by kernel_rfl
  f41 := ⟨Yba.f4.name, by decide, Yba.func4.trans (congrArg some (by kernel_rfl))⟩
  t4 := Yba.underlying4
  a4 := Yba.isAgg4
  z4 := Yba.sizeOf4
  v4 := Yba.zeroValue4
  t22 := Yba.underlying22
  a22 := Yba.isAgg22
  z22 := Yba.sizeOf22
  v22 := Yba.zeroValue22 }
open Go.RowKit Go.Lib in
/-- slices.Clone: "Clone returns a copy of the slice. The elements are copied using assignment, so this is a shallow clone. The result may have additional unused capacity. The result preserves the nilness of s.": OF A SLICE THAT IS NOT nil IT RETURNS A SLICE THAT IS NOT nil, OF THE SAME CELLS, IN MEMORY OF THE CALL's OWN ('ownsRow': the how-to's 6f); below the heap's size at the call all is as it was. (LAID AT THE INSTANCE 'slices.Clone[[]int64,int64]': no walk: one application.) -/
theorem Yba.slices_Clone (i0 : TypeInfo) (z : Value) (size bytes : Nat) (hi : Yba.prog.info? 2 = some i0) (hz0 : i0.zero = some z) (hz1 : i0.size = size) (hz2 : i0.bytes = bytes) (hzs : z.cells.size = size) (hsz : 0 < size) (z23 : ∀ w, (Go.sizeOf 2).run Yba.prog w = .ok size w) (b off n c : Nat) (news : List Value) (w : World) (hl : news.length = n * size) (hn : n ≤ maxLen) (hbig : n * bytes ≤ 140737488355328) (hc : ∀ j u, news[j]? = some u → w.cell? ⟨b, off + j, none⟩ = some u) (h1 : ∀ u ∈ news, u.oneCell' = true) :
    Calls Yba.prog 4 #[.slice (some ⟨b, off, none⟩) n c] w fun e w' => ∃ v', e = .returned v' ∧ w'.ownsRow w.heap.size 2 size v' n news ∧ v' ≠ .slice none 0 0 ∧ Below w.heap.size w w' := AnyE.slices_Clone Yba.laysSlE041_f4 i0 z size bytes hi hz0 hz1 hz2 hzs hsz z23 b off n c news w hl hn hbig hc h1
open Go.RowKit Go.Lib in
/-- The same at nil: nil comes back; the world is as it was; nothing is asked of the element's type. (LAID AT THE INSTANCE 'slices.Clone[[]int64,int64]': no walk: one application.) -/
theorem Yba.slices_Clone_nil (n c : Nat) (w : World) :
    Calls Yba.prog 4 #[.slice none n c] w fun e w' => e = .returned (.slice none 0 0) ∧ w' = w := AnyE.slices_Clone_nil Yba.laysSlE041_f4 n c w
def Yba.laysSlM5_f5_ren : Go.Shelf.Ren := ⟨fun | 5 => 5 | 8 => 8 | 7 => 7 | 19 => 20 | 20 => 21 | 10 => 11 | 11 => 12 | 12 => 13 | 13 => 14 | 14 => 15 | 15 => 16 | 16 => 17 | 17 => 18 | 18 => 19 | 30 => 22 | 31 => 23 | 32 => 24 | 33 => 25 | 34 => 26 | 35 => 27 | 40 => 28 | n => n, fun | 23 => 22 | 25 => 2 | 3 => 3 | 32 => 34 | 22 => 22 | 0 => 0 | 44 => 47 | 46 => 49 | 4 => 4 | 36 => 40 | 35 => 39 | 41 => 35 | 5 => 5 | 9 => 9 | 53 => 50 | 57 => 54 | 63 => 57 | 64 => 58 | n => n, fun | n => n⟩
theorem Yba.laysSlM5_f5 : Go.Proofs.SlLaysM.n5 Yba.prog Yba.laysSlM5_f5_ren := {
  mixed := by kernel_rfl
  f5 := ⟨Yba.f5.name, by decide, Yba.func5.trans (congrArg some (by kernel_rfl))⟩
  f7 := ⟨Yba.f7.name, by decide, Yba.func7.trans (congrArg some (by kernel_rfl))⟩
  f8 := Yba.func8.trans (congrArg some (by kernel_rfl))
  f10 := ⟨Yba.f11.name, by decide, Yba.func11.trans (congrArg some (by kernel_rfl))⟩
  f11 := ⟨Yba.f12.name, by decide, Yba.func12.trans (congrArg some (by kernel_rfl))⟩
  f12 := ⟨Yba.f13.name, by decide, Yba.func13.trans (congrArg some (by kernel_rfl))⟩
  f13 := ⟨Yba.f14.name, by decide, Yba.func14.trans (congrArg some (by kernel_rfl))⟩
  f14 := ⟨Yba.f15.name, by decide, Yba.func15.trans (congrArg some (by kernel_rfl))⟩
  f15 := ⟨Yba.f16.name, by decide, Yba.func16.trans (congrArg some (by kernel_rfl))⟩
  f16 := ⟨Yba.f17.name, by decide, Yba.func17.trans (congrArg some (by kernel_rfl))⟩
  f17 := ⟨Yba.f18.name, by decide, Yba.func18.trans (congrArg some (by kernel_rfl))⟩
  f18 := ⟨Yba.f19.name, by decide, Yba.func19.trans (congrArg some (by kernel_rfl))⟩
  f19 := Yba.func20.trans (congrArg some (by kernel_rfl))
  f20 := Yba.func21.trans (congrArg some (by kernel_rfl))
  f30 := ⟨Yba.f22.name, by decide, Yba.func22.trans (congrArg some (by kernel_rfl))⟩
  f31 := Yba.func23.trans (congrArg some (by kernel_rfl))
  f32 := Yba.func24.trans (congrArg some (by kernel_rfl))
  f33 := ⟨Yba.f25.name, by decide, Yba.func25.trans (congrArg some (by kernel_rfl))⟩
  f34 := ⟨Yba.f26.name, by decide, Yba.func26.trans (congrArg some (by kernel_rfl))⟩
  f35 := ⟨Yba.f27.name, by decide, Yba.func27.trans (congrArg some (by kernel_rfl))⟩
  f40 := ⟨Yba.f28.name, by decide, Yba.func28.trans (congrArg some (by kernel_rfl))⟩
  t0 := Yba.underlying0
  a0 := Yba.isAgg0
  z0 := Yba.sizeOf0
  v0 := Yba.zeroValue0
  t3 := Yba.underlying3
  a3 := Yba.isAgg3
  z3 := Yba.sizeOf3
  v3 := Yba.zeroValue3
  t4 := Yba.underlying4
  a4 := Yba.isAgg4
  z4 := Yba.sizeOf4
  v4 := Yba.zeroValue4
  t5 := Yba.underlying5
  a5 := Yba.isAgg5
  z5 := Yba.sizeOf5
  v5 := Yba.zeroValue5
  t9 := Yba.underlying9
  a9 := Yba.isAgg9
  z9 := Yba.sizeOf9
  v9 := Yba.zeroValue9
  t22 := Yba.underlying22
  a22 := Yba.isAgg22
  z22 := Yba.sizeOf22
  v22 := Yba.zeroValue22
  t23 := Yba.underlying22
  a23 := Yba.isAgg22
  z23 := Yba.sizeOf22
  v23 := Yba.zeroValue22
  t25 := Yba.underlying2
  a25 := Yba.isAgg2
  z25 := Yba.sizeOf2
  v25 := Yba.zeroValue2
  t32 := Yba.underlying34
  a32 := Yba.isAgg34
  z32 := Yba.sizeOf34
  v32 := Yba.zeroValue34
  t35 := Yba.underlying39
  a35 := Yba.isAgg39
  z35 := Yba.sizeOf39
  v35 := Yba.zeroValue39
  t36 := Yba.underlying40
  a36 := Yba.isAgg40
  z36 := Yba.sizeOf40
  v36 := Yba.zeroValue40
  t41 := Yba.underlying35
  a41 := Yba.isAgg35
  z41 := Yba.sizeOf35
  v41 := Yba.zeroValue35
  t44 := Yba.underlying47
  a44 := Yba.isAgg47
  z44 := Yba.sizeOf47
  v44 := Yba.zeroValue47
  t46 := Yba.underlying49
  a46 := Yba.isAgg49
  z46 := Yba.sizeOf49
  v46 := Yba.zeroValue49
  t53 := Yba.underlying50
  a53 := Yba.isAgg50
  z53 := Yba.sizeOf50
  v53 := Yba.zeroValue50
  t57 := Yba.underlying54
  a57 := Yba.isAgg54
  z57 := Yba.sizeOf54
  v57 := Yba.zeroValue54
  t63 := Yba.underlying57
  a63 := Yba.isAgg57
  z63 := Yba.sizeOf57
  v63 := Yba.zeroValue57
  t64 := Yba.underlying58
  a64 := Yba.isAgg58
  z64 := Yba.sizeOf58
  v64 := Yba.zeroValue58 }
open Go.Sort Go.RowKit in
theorem Yba.slices_Sort_int (blk off cap : Nat) (zs : List Int) (w : World) (hH : Holds (Value.int .i64) w blk off zs.toArray) (hblk : blk < w.heap.size) (hsz : zs.length < 4611686018427387904) :
    Calls Yba.prog 5 #[.slice (some ⟨blk, off, none⟩) zs.length cap] w fun e w' =>
      e = .returned (.tuple #[]) ∧ ∃ n os, w' = grow (putRow (Value.int .i64) (Sort.ahead w n) blk off (zs.mergeSort fun x y => decide (x ≤ y)).toArray) os := AnyM.slices_Sort_int Yba.laysSlM5_f5 blk off cap zs w hH hblk hsz
open Go.RowKit Go.Sort in
/-- .. and plain. (LAID AT THE INSTANCE 'slices.Sort[[]int64,int64]': no walk: one application.) -/
theorem Yba.slices_Sort_int_none (p : Option Addr) (cap : Nat) (w : World) :
    Calls Yba.prog 5 #[.slice p 0 cap] w fun e w' => e = .returned (.tuple #[]) ∧ w' = w := AnyM.slices_Sort_int_none Yba.laysSlM5_f5 p cap w
end Go.Proofs
