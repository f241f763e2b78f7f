/-
  Contracts of the library, laid at this dump in plain words (written by the tool lay-plain.mjs).
-/
import Derived.Shelf.Spec.DecodeRune
import Derived.Shelf.Bytes.SlSmallAll
import Derived.Shelf.Bytes.SlCut
import Derived.Lib.LaidU8
import Derived.Test.Qxb6606210aDoorProg
namespace Go.Proofs
open Go.Shelf
def Tryd.lays140_ren : Go.Shelf.Ren := ⟨fun | 140 => 28 | 117 => 40 | 115 => 51 | n => n, fun | 37 => 22 | 4 => 4 | 3 => 3 | 9 => 9 | 5 => 5 | n => n, fun | n => n⟩
theorem Tryd.lays140 : Go.Proofs.Lays.nb140 Tryd.prog Tryd.lays140_ren := {
  mixed := by kernel_rfl
  f115 := Tryd.func51.trans (congrArg some (by kernel_rfl))
  f117 := Tryd.func40.trans (congrArg some (by kernel_rfl))
  f140 := Tryd.func28.trans (congrArg some (by kernel_rfl))
  t3 := Tryd.underlying3
  a3 := Tryd.isAgg3
  z3 := Tryd.sizeOf3
  v3 := Tryd.zeroValue3
  t4 := Tryd.underlying4
  a4 := Tryd.isAgg4
  z4 := Tryd.sizeOf4
  v4 := Tryd.zeroValue4
  t9 := Tryd.underlying9
  a9 := Tryd.isAgg9
  z9 := Tryd.sizeOf9
  v9 := Tryd.zeroValue9
  t37 := Tryd.underlying22
  a37 := Tryd.isAgg22
  z37 := Tryd.sizeOf22
  v37 := Tryd.zeroValue22
  t5 := Tryd.underlying5
  a5 := Tryd.isAgg5
  z5 := Tryd.sizeOf5
  v5 := Tryd.zeroValue5 }
def Tryd.laysT4_ren : Go.Shelf.Ren := ⟨fun | 4 => 29 | 5 => 41 | 6 => 52 | 7 => 51 | 8 => 53 | 9 => 54 | 10 => 55 | 11 => 63 | 12 => 64 | n => n, fun | 22 => 22 | 4 => 4 | 3 => 3 | 0 => 0 | 5 => 5 | 29 => 70 | 9 => 9 | 31 => 83 | 30 => 82 | n => n, fun | 0 => 0 | n => n⟩
theorem Tryd.laysT4 : Go.Proofs.SlLaysT.n4 Tryd.prog Tryd.laysT4_ren := {
  mixed := by kernel_rfl
  f4 := Tryd.func29.trans (congrArg some (by kernel_rfl))
  f5 := Tryd.func41.trans (congrArg some (by kernel_rfl))
  f6 := Tryd.func52.trans (congrArg some (by kernel_rfl))
  f7 := Tryd.func51.trans (congrArg some (by kernel_rfl))
  f8 := Tryd.func53.trans (congrArg some (by kernel_rfl))
  f9 := Tryd.func54.trans (congrArg some (by kernel_rfl))
  f10 := Tryd.func55.trans (congrArg some (by kernel_rfl))
  f11 := Tryd.func63.trans (congrArg some (by kernel_rfl))
  f12 := Tryd.func64.trans (congrArg some (by kernel_rfl))
  t0 := Tryd.underlying0
  a0 := Tryd.isAgg0
  z0 := Tryd.sizeOf0
  v0 := Tryd.zeroValue0
  t3 := Tryd.underlying3
  a3 := Tryd.isAgg3
  z3 := Tryd.sizeOf3
  v3 := Tryd.zeroValue3
  t4 := Tryd.underlying4
  a4 := Tryd.isAgg4
  z4 := Tryd.sizeOf4
  v4 := Tryd.zeroValue4
  t5 := Tryd.underlying5
  a5 := Tryd.isAgg5
  z5 := Tryd.sizeOf5
  v5 := Tryd.zeroValue5
  t9 := Tryd.underlying9
  a9 := Tryd.isAgg9
  z9 := Tryd.sizeOf9
  v9 := Tryd.zeroValue9
  t22 := Tryd.underlying22
  a22 := Tryd.isAgg22
  z22 := Tryd.sizeOf22
  v22 := Tryd.zeroValue22
  t29 := Tryd.underlying70
  a29 := Tryd.isAgg70
  z29 := Tryd.sizeOf70
  v29 := Tryd.zeroValue70
  t30 := Tryd.underlying82
  a30 := Tryd.isAgg82
  z30 := Tryd.sizeOf82
  v30 := Tryd.zeroValue82
  t31 := Tryd.underlying83
  a31 := Tryd.isAgg83
  z31 := Tryd.sizeOf83
  v31 := Tryd.zeroValue83
  g0 := by kernel_rfl }
def Tryd.lays7n32_ren : Go.Shelf.Ren := ⟨fun | 32 => 42 | 49 => 56 | n => n, fun | 30 => 22 | 21 => 21 | 3 => 3 | 0 => 0 | 5 => 5 | 4 => 4 | 33 => 57 | 66 => 85 | 25 => 70 | 69 => 88 | 68 => 87 | n => n, fun | 2 => 4 | 3 => 5 | n => n⟩
theorem Tryd.lays7n32 : Go.Proofs.Lays7.n32 Tryd.prog Tryd.lays7n32_ren := {
  mixed := by kernel_rfl
  f32 := Tryd.func42.trans (congrArg some (by kernel_rfl))
  f49 := Tryd.func56.trans (congrArg some (by kernel_rfl))
  t0 := Tryd.underlying0
  a0 := Tryd.isAgg0
  z0 := Tryd.sizeOf0
  v0 := Tryd.zeroValue0
  i0 := by kernel_rfl
  t3 := Tryd.underlying3
  a3 := Tryd.isAgg3
  z3 := Tryd.sizeOf3
  v3 := Tryd.zeroValue3
  i3 := by kernel_rfl
  t4 := Tryd.underlying4
  a4 := Tryd.isAgg4
  z4 := Tryd.sizeOf4
  v4 := Tryd.zeroValue4
  i4 := by kernel_rfl
  t5 := Tryd.underlying5
  a5 := Tryd.isAgg5
  z5 := Tryd.sizeOf5
  v5 := Tryd.zeroValue5
  i5 := by kernel_rfl
  t21 := Tryd.underlying21
  a21 := Tryd.isAgg21
  z21 := Tryd.sizeOf21
  v21 := Tryd.zeroValue21
  i21 := by kernel_rfl
  t25 := Tryd.underlying70
  a25 := Tryd.isAgg70
  z25 := Tryd.sizeOf70
  v25 := Tryd.zeroValue70
  i25 := by kernel_rfl
  t30 := Tryd.underlying22
  a30 := Tryd.isAgg22
  z30 := Tryd.sizeOf22
  v30 := Tryd.zeroValue22
  i30 := by kernel_rfl
  t33 := Tryd.underlying57
  a33 := Tryd.isAgg57
  z33 := Tryd.sizeOf57
  v33 := Tryd.zeroValue57
  i33 := by kernel_rfl
  t66 := Tryd.underlying85
  a66 := Tryd.isAgg85
  z66 := Tryd.sizeOf85
  t68 := Tryd.underlying87
  a68 := Tryd.isAgg87
  z68 := Tryd.sizeOf87
  v68 := Tryd.zeroValue87
  i68 := by kernel_rfl
  t69 := Tryd.underlying88
  a69 := Tryd.isAgg88
  z69 := Tryd.sizeOf88
  v69 := Tryd.zeroValue88
  i69 := by kernel_rfl
  g2 := by kernel_rfl
  g3 := by kernel_rfl }
end Go.Proofs
