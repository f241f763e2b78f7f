/-
  Contracts of the library, laid at this dump in plain words (written by the tool lay-plain.mjs).
-/
import Derived.Shelf.Bytes.SlTrimWalks
import Derived.Test.Qxb6606097aDoorProg
namespace Go.Proofs
open Go.Shelf
def Tryd.laysV11_ren : Go.Shelf.Ren := ⟨fun | 11 => 38 | n => n, fun | 9 => 9 | 27 => 61 | 4 => 4 | 0 => 0 | 3 => 3 | 5 => 5 | n => n, fun | n => n⟩
theorem Tryd.laysV11 : Go.Proofs.SlLaysV.n11 Tryd.prog Tryd.laysV11_ren := {
  mixed := by kernel_rfl
  f11 := Tryd.func38.trans (congrArg some (by kernel_rfl))
  t0 := Tryd.underlying0
  a0 := Tryd.isAgg0
  z0 := Tryd.sizeOf0
  v0 := Tryd.zeroValue0
  t3 := Tryd.underlying3
  a3 := Tryd.isAgg3
  z3 := Tryd.sizeOf3
  v3 := Tryd.zeroValue3
  t4 := Tryd.underlying4
  a4 := Tryd.isAgg4
  z4 := Tryd.sizeOf4
  v4 := Tryd.zeroValue4
  t5 := Tryd.underlying5
  a5 := Tryd.isAgg5
  z5 := Tryd.sizeOf5
  v5 := Tryd.zeroValue5
  t9 := Tryd.underlying9
  a9 := Tryd.isAgg9
  z9 := Tryd.sizeOf9
  v9 := Tryd.zeroValue9
  t27 := Tryd.underlying61
  a27 := Tryd.isAgg61
  z27 := Tryd.sizeOf61 }
def Tryd.laysV16_ren : Go.Shelf.Ren := ⟨fun | 16 => 39 | n => n, fun | 31 => 87 | 5 => 5 | 4 => 4 | 0 => 0 | 27 => 61 | n => n, fun | n => n⟩
theorem Tryd.laysV16 : Go.Proofs.SlLaysV.n16 Tryd.prog Tryd.laysV16_ren := {
  mixed := by kernel_rfl
  f16 := Tryd.func39.trans (congrArg some (by kernel_rfl))
  t0 := Tryd.underlying0
  a0 := Tryd.isAgg0
  z0 := Tryd.sizeOf0
  v0 := Tryd.zeroValue0
  t4 := Tryd.underlying4
  a4 := Tryd.isAgg4
  z4 := Tryd.sizeOf4
  v4 := Tryd.zeroValue4
  t5 := Tryd.underlying5
  a5 := Tryd.isAgg5
  z5 := Tryd.sizeOf5
  v5 := Tryd.zeroValue5
  t27 := Tryd.underlying61
  a27 := Tryd.isAgg61
  z27 := Tryd.sizeOf61
  t31 := Tryd.underlying87
  a31 := Tryd.isAgg87
  z31 := Tryd.sizeOf87
  v31 := Tryd.zeroValue87 }
end Go.Proofs
