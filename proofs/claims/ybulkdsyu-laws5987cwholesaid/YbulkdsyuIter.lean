/-
  The shelf at slices.Sorted of this dump, in plain words (laid by the kit's own tools).
-/
import Derived.Shelf.SlGeneric
import Derived.Ground.GgzProg
import Derived.Shelf.SlIterI.Sorted
import Derived.Test.YbulkdsyuProg
namespace Go.Proofs
open Go.Shelf
def Yba.laysSlZI6_ren : Go.Shelf.Ren := ⟨fun | 6 => 19 | 8 => 21 | 9 => 22 | 11 => 24 | 13 => 26 | 12 => 25 | 23 => 36 | 24 => 37 | 14 => 27 | 15 => 28 | 16 => 29 | 17 => 30 | 18 => 31 | 19 => 32 | 20 => 33 | 21 => 34 | 22 => 35 | 25 => 38 | 26 => 39 | 27 => 40 | 28 => 41 | 29 => 42 | 30 => 43 | 31 => 44 | n => n, fun | 26 => 3 | 28 => 158 | 24 => 55 | 0 => 0 | 3 => 3 | 37 => 23 | 48 => 102 | 50 => 65 | 4 => 4 | 40 => 167 | 39 => 166 | 45 => 172 | 5 => 5 | 9 => 9 | 51 => 176 | 55 => 180 | 57 => 182 | 58 => 29 | 33 => 161 | n => n, fun | n => n⟩
theorem Yba.laysSlZI6 : Go.Proofs.SlLaysZI.n6 Yba.prog Yba.laysSlZI6_ren := {
  mixed := by kernel_rfl
  f6 := ⟨Yba.f19.name, by decide, Yba.func19.trans (congrArg some (by kernel_rfl))⟩
  f8 := ⟨Yba.f21.name, by decide, Yba.func21.trans (congrArg some (by kernel_rfl))⟩
  f11 := ⟨Yba.f24.name, by decide, Yba.func24.trans (congrArg some (by kernel_rfl))⟩
  t0 := Yba.underlying0
  a0 := Yba.isAgg0
  z0 := Yba.sizeOf0
  v0 := Yba.zeroValue0
  t24 := Yba.underlying55
  a24 := Yba.isAgg55
  z24 := Yba.sizeOf55
  v24 := Yba.zeroValue55
  t26 := Yba.underlying3
  a26 := Yba.isAgg3
  z26 := Yba.sizeOf3
  v26 := Yba.zeroValue3
  t28 := Yba.underlying158
  a28 := Yba.isAgg158
  z28 := Yba.sizeOf158
  v28 := Yba.zeroValue158
  i26 := by kernel_rfl }
end Go.Proofs
