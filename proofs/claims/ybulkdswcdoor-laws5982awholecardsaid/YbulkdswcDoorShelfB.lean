/-
  The shelf's contracts at this dump, in plain words (laid by the kit's own tools).
-/
import Derived.Ground.SlsfProg
import Derived.Shelf.SlSortCmp.Xorshift
import Derived.Test.YbulkdswcDoorProg
namespace Go.Proofs
open Go.Shelf
def Ybad.laysSlF048_ren : Go.Shelf.Ren := ⟨fun | 48 => 48 | n => n, fun | 76 => 83 | 55 => 68 | 0 => 0 | 66 => 76 | 39 => 44 | n => n, fun | n => n⟩
theorem Ybad.laysSlF048 : Go.Proofs.SlLaysF0.n48 Ybad.prog Ybad.laysSlF048_ren := {
  mixed := by kernel_rfl
  f48 := Ybad.func48.trans (congrArg some (by kernel_rfl))
  t0 := Ybad.underlying0
  a0 := Ybad.isAgg0
  z0 := Ybad.sizeOf0
  v0 := Ybad.zeroValue0
  t39 := Ybad.underlying44
  a39 := Ybad.isAgg44
  z39 := Ybad.sizeOf44
  v39 := Ybad.zeroValue44
  t55 := Ybad.underlying68
  a55 := Ybad.isAgg68
  z55 := Ybad.sizeOf68
  v55 := Ybad.zeroValue68
  t66 := Ybad.underlying76
  a66 := Ybad.isAgg76
  z66 := Ybad.sizeOf76
  v66 := Ybad.zeroValue76
  t76 := Ybad.underlying83
  a76 := Ybad.isAgg83
  z76 := Ybad.sizeOf83
  v76 := Ybad.zeroValue83 }
open Go.RowKit Go.Lib Go.Sort in
theorem Ybad.xorshift_Next (rb ro X : Nat) (hX : X < 18446744073709551616) (w : World) (hc : w.cell? ⟨rb, ro, none⟩ = some (.int .u64 X)) (hf : w.frozen? ⟨rb, ro, none⟩ = false) :
    Calls Ybad.prog 48 #[.pointer (some ⟨rb, ro, none⟩)] w fun e w' => e = .returned (.int .u64 (xorNextN X : Nat)) ∧ w' = (w.setCell ⟨rb, ro, none⟩ (.int .u64 (xorNextN X : Nat))).drewN 3 := AnyF.xorshift_Next Ybad.laysSlF048 rb ro X hX w hc hf
def Ybad.laysSlF047_ren : Go.Shelf.Ren := ⟨fun | 47 => 47 | 15 => 17 | 28 => 37 | 29 => 38 | n => n, fun | 3 => 3 | 39 => 44 | 53 => 66 | 55 => 68 | 4 => 4 | 5 => 5 | 9 => 9 | n => n, fun | n => n⟩
theorem Ybad.laysSlF047 : Go.Proofs.SlLaysF0.n47 Ybad.prog Ybad.laysSlF047_ren := {
  mixed := by kernel_rfl
  f15 := Ybad.func17.trans (congrArg some (by kernel_rfl))
  f28 := Ybad.func37.trans (congrArg some (by kernel_rfl))
  f29 := Ybad.func38.trans (congrArg some (by kernel_rfl))
  f47 := Ybad.func47.trans (congrArg some (by kernel_rfl))
  t3 := Ybad.underlying3
  a3 := Ybad.isAgg3
  z3 := Ybad.sizeOf3
  v3 := Ybad.zeroValue3
  t4 := Ybad.underlying4
  a4 := Ybad.isAgg4
  z4 := Ybad.sizeOf4
  v4 := Ybad.zeroValue4
  t5 := Ybad.underlying5
  a5 := Ybad.isAgg5
  z5 := Ybad.sizeOf5
  v5 := Ybad.zeroValue5
  t9 := Ybad.underlying9
  a9 := Ybad.isAgg9
  z9 := Ybad.sizeOf9
  v9 := Ybad.zeroValue9
  t39 := Ybad.underlying44
  a39 := Ybad.isAgg44
  z39 := Ybad.sizeOf44
  v39 := Ybad.zeroValue44
  t53 := Ybad.underlying66
  a53 := Ybad.isAgg66
  z53 := Ybad.sizeOf66
  v53 := Ybad.zeroValue66
  t55 := Ybad.underlying68
  a55 := Ybad.isAgg68
  z55 := Ybad.sizeOf68
  v55 := Ybad.zeroValue68 }
open Go.RowKit Go.Lib Go.Sort in
theorem Ybad.nextPowerOfTwo (n : Nat) (hn : n < 4611686018427387904) (w : World) :
    Calls Ybad.prog 47 #[.int .i64 n] w fun e w' => e = .returned (.int .u64 ((1 <<< bitsLen n : Nat) : Int)) ∧ w' = w := AnyF.nextPowerOfTwo Ybad.laysSlF047 n hn w
end Go.Proofs
