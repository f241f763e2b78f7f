/-
  Contracts of the library, laid at this dump in plain words (written by the tool lay-plain.mjs).
-/
import Derived.Shelf.Bytes.IndexByte
import Derived.Shelf.Bytes.SlSearch0
import Derived.Shelf.Spec.DecodeRune
import Derived.Lib.LaidU8
import Derived.Test.Qxb6606097aDoorProg
namespace Go.Proofs
open Go.Shelf
def Tryd.lays187_ren : Go.Shelf.Ren := ⟨fun | 187 => 59 | 255 => 79 | n => n, fun | 37 => 27 | 5 => 5 | 3 => 3 | n => n, fun | n => n⟩
theorem Tryd.lays187 : Go.Proofs.Lays.n187 Tryd.prog Tryd.lays187_ren := {
  mixed := by kernel_rfl
  f187 := Tryd.func59.trans (congrArg some (by kernel_rfl))
  f255 := Tryd.func79.trans (congrArg some (by kernel_rfl))
  t3 := Tryd.underlying3
  a3 := Tryd.isAgg3
  z3 := Tryd.sizeOf3
  v3 := Tryd.zeroValue3
  t5 := Tryd.underlying5
  a5 := Tryd.isAgg5
  z5 := Tryd.sizeOf5
  v5 := Tryd.zeroValue5
  t37 := Tryd.underlying27
  a37 := Tryd.isAgg27
  z37 := Tryd.sizeOf27
  v37 := Tryd.zeroValue27 }
open Go.Proofs Go.RowKit Go.Lib in
theorem Tryd.bytes_IndexByte_bytes (b o cap : Nat) (t : ByteArray) (cv : Int) (w : World) (hc : Lib.Bytes w b o t) :
    Calls Tryd.prog 59 #[.slice (some ⟨b, o, none⟩) t.size cap, .int .u8 cv] w fun e w' => e = .returned (.int .i64 (Lib.indexByte t.data.toList cv.toNat.toUInt8)) ∧ w' = w := Any.bytes_IndexByte_bytes Tryd.lays187 b o cap t cv w hc
def Tryd.lays7n32_ren : Go.Shelf.Ren := ⟨fun | 32 => 40 | 49 => 64 | n => n, fun | 30 => 27 | 21 => 21 | 3 => 3 | 0 => 0 | 5 => 5 | 4 => 4 | 33 => 64 | 66 => 99 | 25 => 37 | 69 => 102 | 68 => 101 | n => n, fun | 2 => 1 | 3 => 2 | n => n⟩
theorem Tryd.lays7n32 : Go.Proofs.Lays7.n32 Tryd.prog Tryd.lays7n32_ren := {
  mixed := by kernel_rfl
  f32 := Tryd.func40.trans (congrArg some (by kernel_rfl))
  f49 := Tryd.func64.trans (congrArg some (by kernel_rfl))
  t0 := Tryd.underlying0
  a0 := Tryd.isAgg0
  z0 := Tryd.sizeOf0
  v0 := Tryd.zeroValue0
  i0 := by kernel_rfl
  t3 := Tryd.underlying3
  a3 := Tryd.isAgg3
  z3 := Tryd.sizeOf3
  v3 := Tryd.zeroValue3
  i3 := by kernel_rfl
  t4 := Tryd.underlying4
  a4 := Tryd.isAgg4
  z4 := Tryd.sizeOf4
  v4 := Tryd.zeroValue4
  i4 := by kernel_rfl
  t5 := Tryd.underlying5
  a5 := Tryd.isAgg5
  z5 := Tryd.sizeOf5
  v5 := Tryd.zeroValue5
  i5 := by kernel_rfl
  t21 := Tryd.underlying21
  a21 := Tryd.isAgg21
  z21 := Tryd.sizeOf21
  v21 := Tryd.zeroValue21
  i21 := by kernel_rfl
  t25 := Tryd.underlying37
  a25 := Tryd.isAgg37
  z25 := Tryd.sizeOf37
  v25 := Tryd.zeroValue37
  i25 := by kernel_rfl
  t30 := Tryd.underlying27
  a30 := Tryd.isAgg27
  z30 := Tryd.sizeOf27
  v30 := Tryd.zeroValue27
  i30 := by kernel_rfl
  t33 := Tryd.underlying64
  a33 := Tryd.isAgg64
  z33 := Tryd.sizeOf64
  v33 := Tryd.zeroValue64
  i33 := by kernel_rfl
  t66 := Tryd.underlying99
  a66 := Tryd.isAgg99
  z66 := Tryd.sizeOf99
  t68 := Tryd.underlying101
  a68 := Tryd.isAgg101
  z68 := Tryd.sizeOf101
  v68 := Tryd.zeroValue101
  i68 := by kernel_rfl
  t69 := Tryd.underlying102
  a69 := Tryd.isAgg102
  z69 := Tryd.sizeOf102
  v69 := Tryd.zeroValue102
  i69 := by kernel_rfl
  g2 := by kernel_rfl
  g3 := by kernel_rfl }
def Tryd.lays260_ren : Go.Shelf.Ren := ⟨fun | 260 => 78 | n => n, fun | 9 => 9 | 21 => 21 | 3 => 3 | 4 => 4 | 5 => 5 | 119 => 99 | 0 => 0 | 46 => 37 | 139 => 102 | 138 => 101 | n => n, fun | 3 => 1 | 4 => 2 | n => n⟩
theorem Tryd.lays260 : Go.Proofs.Lays.n260 Tryd.prog Tryd.lays260_ren := {
  mixed := by kernel_rfl
  f260 := Tryd.func78.trans (congrArg some (by kernel_rfl))
  t0 := Tryd.underlying0
  a0 := Tryd.isAgg0
  z0 := Tryd.sizeOf0
  v0 := Tryd.zeroValue0
  t3 := Tryd.underlying3
  a3 := Tryd.isAgg3
  z3 := Tryd.sizeOf3
  v3 := Tryd.zeroValue3
  t4 := Tryd.underlying4
  a4 := Tryd.isAgg4
  z4 := Tryd.sizeOf4
  v4 := Tryd.zeroValue4
  t5 := Tryd.underlying5
  a5 := Tryd.isAgg5
  z5 := Tryd.sizeOf5
  v5 := Tryd.zeroValue5
  t9 := Tryd.underlying9
  a9 := Tryd.isAgg9
  z9 := Tryd.sizeOf9
  v9 := Tryd.zeroValue9
  t21 := Tryd.underlying21
  a21 := Tryd.isAgg21
  z21 := Tryd.sizeOf21
  v21 := Tryd.zeroValue21
  t46 := Tryd.underlying37
  a46 := Tryd.isAgg37
  z46 := Tryd.sizeOf37
  v46 := Tryd.zeroValue37
  t119 := Tryd.underlying99
  a119 := Tryd.isAgg99
  z119 := Tryd.sizeOf99
  t138 := Tryd.underlying101
  a138 := Tryd.isAgg101
  z138 := Tryd.sizeOf101
  v138 := Tryd.zeroValue101
  t139 := Tryd.underlying102
  a139 := Tryd.isAgg102
  z139 := Tryd.sizeOf102
  v139 := Tryd.zeroValue102
  g3 := by kernel_rfl
  g4 := by kernel_rfl }
end Go.Proofs
