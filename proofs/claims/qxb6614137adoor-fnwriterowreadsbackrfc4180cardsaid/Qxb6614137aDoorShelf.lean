/-
  Contracts of the library, laid at this dump in plain words (written by the tool lay-plain.mjs).
-/
import Derived.Shelf.LaysM
import Derived.Shelf.Bytes.Len
import Derived.Shelf.Bytes.TryGrow
import Derived.Shelf.Bytes.GrowSlice
import Derived.Shelf.Bytes.String
import Derived.Shelf.Strings.Replace
import Derived.Test.Qxb6614137aDoorProg
namespace Go.Proofs
open Go.Shelf
def Tryd.laysM181_ren : Go.Shelf.Ren := ⟨fun | 181 => 62 | n => n, fun | 130 => 36 | 3 => 3 | 0 => 0 | 93 => 33 | 37 => 29 | 91 => 31 | 5 => 5 | n => n, fun | n => n⟩
theorem Tryd.laysM181 : Go.Proofs.LaysM.n181 Tryd.prog Tryd.laysM181_ren := {
  mixed := by kernel_rfl
  f181 := Tryd.func62.trans (congrArg some (by kernel_rfl))
  t0 := Tryd.underlying0
  a0 := Tryd.isAgg0
  z0 := Tryd.sizeOf0
  v0 := Tryd.zeroValue0
  t3 := Tryd.underlying3
  a3 := Tryd.isAgg3
  z3 := Tryd.sizeOf3
  v3 := Tryd.zeroValue3
  t37 := Tryd.underlying29
  a37 := Tryd.isAgg29
  z37 := Tryd.sizeOf29
  v37 := Tryd.zeroValue29
  t93 := Tryd.underlying33
  a93 := Tryd.isAgg33
  z93 := Tryd.sizeOf33
  v93 := Tryd.zeroValue33
  t130 := Tryd.underlying36
  a130 := Tryd.isAgg36
  z130 := Tryd.sizeOf36
  v130 := Tryd.zeroValue36
  t5 := Tryd.underlying5
  a5 := Tryd.isAgg5
  z5 := Tryd.sizeOf5
  v5 := Tryd.zeroValue5
  t91 := Tryd.underlying31
  a91 := Tryd.isAgg31
  z91 := Tryd.sizeOf31
  v91 := Tryd.zeroValue31
  i0 := by kernel_rfl
  i3 := by kernel_rfl
  i5 := by kernel_rfl
  i37 := by kernel_rfl
  i91 := by kernel_rfl
  i93 := by kernel_rfl
  i130 := by kernel_rfl }
open Go.RowKit in
/-- (*bytes.Buffer).Len: "Len returns the number of bytes of the unread portion of the buffer; b.Len() == len(b.Bytes()).": the world is as it was but for the count of draws (the statement has two reads: its order is drawn). (LAID: no walk: one application.) -/
theorem Tryd.Buffer_Len (B b : Nat) (bs : List Value) (w : World) (h : Lib.IsBuffer 33 5 B b bs w) :
    Calls Tryd.prog 62 #[.pointer (some ⟨b, 0, none⟩)] w fun e w' => e = .returned (.int .i64 bs.length) ∧ ∃ n, w' = w.drewN n := Any.Buffer_Len Tryd.laysM181 B b bs w h
def Tryd.laysM251_ren : Go.Shelf.Ren := ⟨fun | 251 => 60 | n => n, fun | 130 => 36 | 3 => 3 | 4 => 4 | 0 => 0 | 93 => 33 | 37 => 29 | 91 => 31 | 5 => 5 | n => n, fun | n => n⟩
theorem Tryd.laysM251 : Go.Proofs.LaysM.n251 Tryd.prog Tryd.laysM251_ren := {
  mixed := by kernel_rfl
  f251 := Tryd.func60.trans (congrArg some (by kernel_rfl))
  t0 := Tryd.underlying0
  a0 := Tryd.isAgg0
  z0 := Tryd.sizeOf0
  v0 := Tryd.zeroValue0
  t3 := Tryd.underlying3
  a3 := Tryd.isAgg3
  z3 := Tryd.sizeOf3
  v3 := Tryd.zeroValue3
  t4 := Tryd.underlying4
  a4 := Tryd.isAgg4
  z4 := Tryd.sizeOf4
  v4 := Tryd.zeroValue4
  t37 := Tryd.underlying29
  a37 := Tryd.isAgg29
  z37 := Tryd.sizeOf29
  v37 := Tryd.zeroValue29
  t93 := Tryd.underlying33
  a93 := Tryd.isAgg33
  z93 := Tryd.sizeOf33
  v93 := Tryd.zeroValue33
  t130 := Tryd.underlying36
  a130 := Tryd.isAgg36
  z130 := Tryd.sizeOf36
  v130 := Tryd.zeroValue36
  t5 := Tryd.underlying5
  a5 := Tryd.isAgg5
  z5 := Tryd.sizeOf5
  v5 := Tryd.zeroValue5
  t91 := Tryd.underlying31
  a91 := Tryd.isAgg31
  z91 := Tryd.sizeOf31
  v91 := Tryd.zeroValue31
  i0 := by kernel_rfl
  i3 := by kernel_rfl
  i4 := by kernel_rfl
  i5 := by kernel_rfl
  i37 := by kernel_rfl
  i91 := by kernel_rfl
  i93 := by kernel_rfl
  i130 := by kernel_rfl }
open Go.RowKit in
/-- (*bytes.Buffer).tryGrowByReslice: "tryGrowByReslice is an inlineable version of grow for the fast-case where the internal buffer only needs to be resliced. It returns the index where bytes should be written and whether it succeeded.": THERE IS ROOM: 'buf' is resliced to l + n. (LAID: no walk: one application.) -/
theorem Tryd.Buffer_tryGrow_room (b : Nat) (ao : Option Addr) (l cap n : Nat) (w : World) (c0 : w.cell? ⟨b, 0, none⟩ = some (.slice ao l cap)) (f0 : w.frozen? ⟨b, 0, none⟩ = false) (hlc : l ≤ cap) (hcap : cap ≤ maxLen) (hn : n ≤ cap - l) :
    Calls Tryd.prog 60 #[.pointer (some ⟨b, 0, none⟩), .int .i64 n] w fun e w' => e = .returned (.tuple #[.int .i64 l, .bool true]) ∧ w' = w.setCell ⟨b, 0, none⟩ (.slice ao (l + n) cap) := Any.Buffer_tryGrow_room Tryd.laysM251 b ao l cap n w c0 f0 hlc hcap hn
open Go.RowKit in
/-- .. THERE IS NONE: nothing turns. (LAID: no walk: one application.) -/
theorem Tryd.Buffer_tryGrow_none (b : Nat) (ao : Option Addr) (l cap n : Nat) (w : World) (c0 : w.cell? ⟨b, 0, none⟩ = some (.slice ao l cap)) (hlc : l ≤ cap) (hcap : cap ≤ maxLen) (hn : cap - l < n) :
    Calls Tryd.prog 60 #[.pointer (some ⟨b, 0, none⟩), .int .i64 n] w fun e w' => e = .returned (.tuple #[.int .i64 0, .bool false]) ∧ w' = w := Any.Buffer_tryGrow_none Tryd.laysM251 b ao l cap n w c0 hlc hcap hn
def Tryd.laysM290_ren : Go.Shelf.Ren := ⟨fun | 290 => 63 | 324 => 64 | n => n, fun | 37 => 29 | 3 => 3 | 0 => 0 | 4 => 4 | 20 => 20 | 75 => 42 | 5 => 5 | 80 => 44 | 9 => 9 | n => n, fun | 14 => 4 | n => n⟩
theorem Tryd.laysM290 : Go.Proofs.LaysM.n290 Tryd.prog Tryd.laysM290_ren := {
  mixed := by kernel_rfl
  f290 := Tryd.func63.trans (congrArg some (by kernel_rfl))
  f324 := Tryd.func64.trans (congrArg some (by kernel_rfl))
  t0 := Tryd.underlying0
  a0 := Tryd.isAgg0
  z0 := Tryd.sizeOf0
  v0 := Tryd.zeroValue0
  t3 := Tryd.underlying3
  a3 := Tryd.isAgg3
  z3 := Tryd.sizeOf3
  v3 := Tryd.zeroValue3
  t4 := Tryd.underlying4
  a4 := Tryd.isAgg4
  z4 := Tryd.sizeOf4
  v4 := Tryd.zeroValue4
  t20 := Tryd.underlying20
  a20 := Tryd.isAgg20
  z20 := Tryd.sizeOf20
  v20 := Tryd.zeroValue20
  t37 := Tryd.underlying29
  a37 := Tryd.isAgg29
  z37 := Tryd.sizeOf29
  v37 := Tryd.zeroValue29
  t75 := Tryd.underlying42
  a75 := Tryd.isAgg42
  z75 := Tryd.sizeOf42
  v75 := Tryd.zeroValue42
  g14 := by kernel_rfl
  t5 := Tryd.underlying5
  a5 := Tryd.isAgg5
  z5 := Tryd.sizeOf5
  v5 := Tryd.zeroValue5
  t9 := Tryd.underlying9
  a9 := Tryd.isAgg9
  z9 := Tryd.sizeOf9
  v9 := Tryd.zeroValue9
  t80 := Tryd.underlying44
  a80 := Tryd.isAgg44
  z80 := Tryd.sizeOf44
  v80 := Tryd.zeroValue44
  i0 := by kernel_rfl
  i3 := by kernel_rfl
  i4 := by kernel_rfl
  i5 := by kernel_rfl
  i9 := by kernel_rfl
  i20 := by kernel_rfl
  i37 := by kernel_rfl
  i75 := by kernel_rfl
  i80 := by kernel_rfl
  m14 := by kernel_rfl }
open Go.RowKit in
/-- bytes.growSlice: "growSlice grows b by n, preserving the original content of b.": OF A SLICE THAT LIES AT THE HEAD OF A ROW: a new row, number 'w.heap.size': it begins with b's l cells; its capacity has room for n more; whatever lay below is as it was. (LAID: no walk: one application.) -/
theorem Tryd.bytes_growSlice_row (g l c n : Nat) (cur : Array Value) (w : World) (hg : w.heap[g]? = some (.cells cur 5 (0, 0))) (hcs : cur.size = c) (hlc : l ≤ c) (hn : 1 ≤ n) (hlim : l + n ≤ 140737488355328) (hc2 : c ≤ 140737488355328) (h1 : ∀ v ∈ cur.toList.take l, v.oneCell' = true) :
    Calls Tryd.prog 63 #[.slice (some ⟨g, 0, none⟩) l c, .int .i64 n] w fun e w' => ∃ cap2 cells, e = .returned (.slice (some ⟨w.heap.size, 0, none⟩) l cap2) ∧ w'.heap[w.heap.size]? = some (.cells cells 5 (0, 0)) ∧
      cells.size = cap2 ∧ cells.toList.take l = cur.toList.take l ∧ l + n ≤ cap2 ∧ cap2 ≤ maxLen ∧ Below w.heap.size w w' := Any.bytes_growSlice_row Tryd.laysM290 g l c n cur w hg hcs hlc hn hlim hc2 h1
open Go.RowKit in
/-- .. OF THE NIL SLICE: a new row with room for n. (LAID: no walk: one application.) -/
theorem Tryd.bytes_growSlice_nil (n : Nat) (w : World) (hn : 1 ≤ n) (hlim : n ≤ 140737488355328) :
    Calls Tryd.prog 63 #[.slice none 0 0, .int .i64 n] w fun e w' => ∃ cap2 cells, e = .returned (.slice (some ⟨w.heap.size, 0, none⟩) 0 cap2) ∧ w'.heap[w.heap.size]? = some (.cells cells 5 (0, 0)) ∧
      cells.size = cap2 ∧ n ≤ cap2 ∧ cap2 ≤ maxLen ∧ Below w.heap.size w w' := Any.bytes_growSlice_nil Tryd.laysM290 n w hn hlim
def Tryd.laysM182_ren : Go.Shelf.Ren := ⟨fun | 182 => 11 | n => n, fun | 130 => 36 | 9 => 9 | 4 => 4 | 0 => 0 | 93 => 33 | 37 => 29 | 3 => 3 | 91 => 31 | 5 => 5 | n => n, fun | n => n⟩
theorem Tryd.laysM182 : Go.Proofs.LaysM.n182 Tryd.prog Tryd.laysM182_ren := {
  mixed := by kernel_rfl
  f182 := Tryd.func11.trans (congrArg some (by kernel_rfl))
  t0 := Tryd.underlying0
  a0 := Tryd.isAgg0
  z0 := Tryd.sizeOf0
  v0 := Tryd.zeroValue0
  t3 := Tryd.underlying3
  a3 := Tryd.isAgg3
  z3 := Tryd.sizeOf3
  v3 := Tryd.zeroValue3
  t4 := Tryd.underlying4
  a4 := Tryd.isAgg4
  z4 := Tryd.sizeOf4
  v4 := Tryd.zeroValue4
  t9 := Tryd.underlying9
  a9 := Tryd.isAgg9
  z9 := Tryd.sizeOf9
  v9 := Tryd.zeroValue9
  t37 := Tryd.underlying29
  a37 := Tryd.isAgg29
  z37 := Tryd.sizeOf29
  v37 := Tryd.zeroValue29
  t93 := Tryd.underlying33
  a93 := Tryd.isAgg33
  z93 := Tryd.sizeOf33
  v93 := Tryd.zeroValue33
  t130 := Tryd.underlying36
  a130 := Tryd.isAgg36
  z130 := Tryd.sizeOf36
  v130 := Tryd.zeroValue36
  t5 := Tryd.underlying5
  a5 := Tryd.isAgg5
  z5 := Tryd.sizeOf5
  v5 := Tryd.zeroValue5
  t91 := Tryd.underlying31
  a91 := Tryd.isAgg31
  z91 := Tryd.sizeOf31
  v91 := Tryd.zeroValue31
  i0 := by kernel_rfl
  i3 := by kernel_rfl
  i4 := by kernel_rfl
  i5 := by kernel_rfl
  i9 := by kernel_rfl
  i37 := by kernel_rfl
  i91 := by kernel_rfl
  i93 := by kernel_rfl
  i130 := by kernel_rfl }
open Go.RowKit in
/-- (*bytes.Buffer).String: "String returns the contents of the unread portion of the buffer as a string.": THE BYTES THAT WERE WRITTEN. The world is as it was but for the count of draws (the statement has two reads: its order is drawn). (LAID: no walk: one application.) -/
theorem Tryd.Buffer_String (B b : Nat) (l : List UInt8) (w : World) (h : Lib.IsBuffer 33 5 B b (Lib.byteCells l) w) :
    Calls Tryd.prog 11 #[.pointer (some ⟨b, 0, none⟩)] w fun e w' => e = .returned (.string ⟨l.toArray⟩) ∧ ∃ n, w' = w.drewN n := Any.Buffer_String Tryd.laysM182 B b l w h
def Tryd.lays155_ren : Go.Shelf.Ren := ⟨fun | 155 => 16 | 154 => 20 | 138 => 21 | 165 => 22 | 143 => 23 | 166 => 24 | 197 => 25 | 169 => 26 | 195 => 27 | 218 => 28 | 240 => 29 | 241 => 30 | 219 => 31 | 260 => 32 | 276 => 33 | 277 => 34 | 217 => 35 | 225 => 36 | 224 => 37 | 267 => 38 | 266 => 39 | 314 => 40 | n => n, fun | 9 => 9 | 3 => 3 | 4 => 4 | 72 => 65 | 0 => 0 | 76 => 49 | 105 => 67 | 21 => 21 | 5 => 5 | 70 => 63 | 20 => 20 | 37 => 29 | 75 => 42 | 127 => 71 | 164 => 72 | 46 => 76 | 119 => 77 | 139 => 80 | 138 => 79 | 146 => 82 | 51 => 81 | 80 => 44 | n => n, fun | 1 => 1 | 3 => 2 | 4 => 3 | n => n⟩
theorem Tryd.lays155 : Go.Proofs.Lays.n155 Tryd.prog Tryd.lays155_ren := {
  mixed := by kernel_rfl
  f138 := Tryd.func21.trans (congrArg some (by kernel_rfl))
  f143 := Tryd.func23.trans (congrArg some (by kernel_rfl))
  f154 := Tryd.func20.trans (congrArg some (by kernel_rfl))
  f155 := Tryd.func16.trans (congrArg some (by kernel_rfl))
  f165 := Tryd.func22.trans (congrArg some (by kernel_rfl))
  f166 := Tryd.func24.trans (congrArg some (by kernel_rfl))
  f169 := Tryd.func26.trans (congrArg some (by kernel_rfl))
  f195 := Tryd.func27.trans (congrArg some (by kernel_rfl))
  f197 := Tryd.func25.trans (congrArg some (by kernel_rfl))
  f217 := Tryd.func35.trans (congrArg some (by kernel_rfl))
  f218 := Tryd.func28.trans (congrArg some (by kernel_rfl))
  f219 := Tryd.func31.trans (congrArg some (by kernel_rfl))
  f224 := Tryd.func37.trans (congrArg some (by kernel_rfl))
  f225 := Tryd.func36.trans (congrArg some (by kernel_rfl))
  f240 := Tryd.func29.trans (congrArg some (by kernel_rfl))
  f241 := Tryd.func30.trans (congrArg some (by kernel_rfl))
  f260 := Tryd.func32.trans (congrArg some (by kernel_rfl))
  f266 := Tryd.func39.trans (congrArg some (by kernel_rfl))
  f267 := Tryd.func38.trans (congrArg some (by kernel_rfl))
  f276 := Tryd.func33.trans (congrArg some (by kernel_rfl))
  f277 := Tryd.func34.trans (congrArg some (by kernel_rfl))
  f314 := Tryd.func40.trans (congrArg some (by kernel_rfl))
  t0 := Tryd.underlying0
  a0 := Tryd.isAgg0
  z0 := Tryd.sizeOf0
  v0 := Tryd.zeroValue0
  t3 := Tryd.underlying3
  a3 := Tryd.isAgg3
  z3 := Tryd.sizeOf3
  v3 := Tryd.zeroValue3
  t4 := Tryd.underlying4
  a4 := Tryd.isAgg4
  z4 := Tryd.sizeOf4
  v4 := Tryd.zeroValue4
  t5 := Tryd.underlying5
  a5 := Tryd.isAgg5
  z5 := Tryd.sizeOf5
  v5 := Tryd.zeroValue5
  t9 := Tryd.underlying9
  a9 := Tryd.isAgg9
  z9 := Tryd.sizeOf9
  v9 := Tryd.zeroValue9
  t20 := Tryd.underlying20
  a20 := Tryd.isAgg20
  z20 := Tryd.sizeOf20
  v20 := Tryd.zeroValue20
  t21 := Tryd.underlying21
  a21 := Tryd.isAgg21
  z21 := Tryd.sizeOf21
  v21 := Tryd.zeroValue21
  t37 := Tryd.underlying29
  a37 := Tryd.isAgg29
  z37 := Tryd.sizeOf29
  v37 := Tryd.zeroValue29
  t46 := Tryd.underlying76
  a46 := Tryd.isAgg76
  z46 := Tryd.sizeOf76
  v46 := Tryd.zeroValue76
  t51 := Tryd.underlying81
  a51 := Tryd.isAgg81
  z51 := Tryd.sizeOf81
  v51 := Tryd.zeroValue81
  t70 := Tryd.underlying63
  a70 := Tryd.isAgg63
  z70 := Tryd.sizeOf63
  v70 := Tryd.zeroValue63
  t72 := Tryd.underlying65
  a72 := Tryd.isAgg65
  z72 := Tryd.sizeOf65
  v72 := Tryd.zeroValue65
  t75 := Tryd.underlying42
  a75 := Tryd.isAgg42
  z75 := Tryd.sizeOf42
  v75 := Tryd.zeroValue42
  t76 := Tryd.underlying49
  a76 := Tryd.isAgg49
  z76 := Tryd.sizeOf49
  v76 := Tryd.zeroValue49
  t105 := Tryd.underlying67
  a105 := Tryd.isAgg67
  z105 := Tryd.sizeOf67
  v105 := Tryd.zeroValue67
  t119 := Tryd.underlying77
  a119 := Tryd.isAgg77
  z119 := Tryd.sizeOf77
  t127 := Tryd.underlying71
  a127 := Tryd.isAgg71
  z127 := Tryd.sizeOf71
  v127 := Tryd.zeroValue71
  t138 := Tryd.underlying79
  a138 := Tryd.isAgg79
  z138 := Tryd.sizeOf79
  v138 := Tryd.zeroValue79
  t139 := Tryd.underlying80
  a139 := Tryd.isAgg80
  z139 := Tryd.sizeOf80
  v139 := Tryd.zeroValue80
  t146 := Tryd.underlying82
  a146 := Tryd.isAgg82
  z146 := Tryd.sizeOf82
  v146 := Tryd.zeroValue82
  t164 := Tryd.underlying72
  a164 := Tryd.isAgg72
  z164 := Tryd.sizeOf72
  v164 := Tryd.zeroValue72
  g1 := by kernel_rfl
  g3 := by kernel_rfl
  g4 := by kernel_rfl }
theorem Tryd.Builder_Extra_155 : Builder.Extra Tryd.prog Tryd.lays155_ren := {
  sizeBuilder := by kernel_rfl
  liesBuilder := by kernel_rfl
  t5 := Tryd.underlying5
  a5 := Tryd.isAgg5
  z5 := Tryd.sizeOf5
  v5 := Tryd.zeroValue5
  infoByte := by kernel_rfl
  cellsByte := by kernel_rfl
  sizeByte := by kernel_rfl
  neB5 := by decide }
open Go.RowKit Go.Lib in
/-- strings.ReplaceAll: "ReplaceAll returns a copy of the string s with all non-overlapping instances of old replaced by new.": AT AN old THAT IS NOT EMPTY: 'Lib.replaceAll s old new'. (LAID: no walk: one application.) -/
theorem Tryd.strings_ReplaceAll (s old new : ByteArray) (m : Int) (w : World) (hs : s.size < 4294967281) (hm : w.cell? ⟨1, 0, none⟩ = some (.int .i64 m)) (h1 : 1 ≤ old.size) (hlen : s.size + Lib.countB s old * new.size ≤ 140737488355328) :
    Calls Tryd.prog 16 #[.string s, .string old, .string new] w fun e w' =>
      e = .returned (.string ⟨(Lib.replaceAll s.data.toList old.data.toList new.data.toList).toArray⟩) ∧ Below w.heap.size w w' := Any.strings_ReplaceAll Tryd.lays155 Tryd.Builder_Extra_155 s old new m w hs hm h1 hlen
end Go.Proofs
