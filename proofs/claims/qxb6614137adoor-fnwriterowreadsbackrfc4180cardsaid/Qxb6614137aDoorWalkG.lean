import Derived.Test.Qxb6614137aDoorWalkF
set_option linter.unusedSimpArgs false
set_option linter.unusedVariables false
namespace Go.Proofs.Qxb6614137aDoor
open Go.RowKit Go.PlainAid

theorem BWn.at {w : World} {B bb kb rb cb : Nat} {T U : List UInt8} {n : Nat} (h : BWn w B bb kb rb cb T U n) (j : Nat) (hj : j < 4096) :
    (∃ x, w.cell? ⟨rb, j, none⟩ = some x) ∧ w.frozen? ⟨rb, j, none⟩ = false := by
  obtain ⟨v, row, h1, h2, h3, h4, h5⟩ := h
  refine ⟨⟨row[j]'(by rw [h3.2.1]; exact hj), ?_⟩, Lib.frozen_of_heap h3.1 j⟩
  rw [Lib.cell_of_heap h3.1]
  simp [h3.2.1, hj]

theorem BWn.ne {w : World} {B bb kb rb cb : Nat} {T U : List UInt8} {n : Nat} (h : BWn w B bb kb rb cb T U n) : rb ≠ kb := by
  obtain ⟨v, row, h1, h2, h3, h4, h5⟩ := h
  exact h5.2.2.2.2.2.1

/-- The row has turned. -/
theorem BWn.newRow {w w' : World} {B bb kb rb cb : Nat} {T U V : List UInt8} {n : Nat} (h : BWn w B bb kb rb cb T U n) (hg : w.grownBy w' (some rb)) (row : Array Value) (hr : Rw w' rb row V) : BWn w' B bb kb rb cb T V n ∧ Below B w w' := by
  obtain ⟨v, row0, h1, h2, h3, h4, h5⟩ := h
  obtain ⟨a1, a2, a3, a4, a5, a6, a7, a8, a9, a10, a11⟩ := id h5
  refine ⟨⟨v, row, bf_away h1 hg a4 a10, ?_, hr, ?_, h5⟩, ⟨hg.os, hg.tape, hg.output, hg.size, fun k hk => ?_⟩⟩
  · exact (hg.block kb (lt_blk h2) (fun e => a6 (Option.some.inj e).symm)).trans h2
  · exact (hg.block cb (lt_blk h4) (fun e => a8 (Option.some.inj e))).trans h4
  · have hlt := lt_blk h3.1
    exact hg.block k (by omega) (fun e => by have := Option.some.inj e; omega)

theorem BWn.poke {w : World} {B bb kb rb cb : Nat} {T U : List UInt8} {n : Nat} (h : BWn w B bb kb rb cb T U n) (hU : U.length < 4096) (c : UInt8) :
    BWn (w.setCell ⟨rb, U.length, none⟩ (.int .u8 (c.toNat : Int))) B bb kb rb cb T (U ++ [c]) n ∧ Below B w (w.setCell ⟨rb, U.length, none⟩ (.int .u8 (c.toNat : Int))) := by
  obtain ⟨v, row, h1, h2, h3, h4, h5⟩ := id h
  refine h.newRow (Lib.grownBy_setCell w rb U.length _) (row.setIfInBounds U.length (.int .u8 (c.toNat : Int))) ⟨Lib.heap_setCell_same (i := U.length) h3.1 _, by simpa using h3.2.1, ?_, by simp; omega⟩
  have hll : U.length < row.toList.length := by have := h3.2.1; rw [Array.length_toList (xs := row)]; omega
  rw [List.length_append, List.length_singleton, Array.toList_setIfInBounds, List.take_add_one, List.take_set_of_le (Nat.le_refl _), List.getElem?_set_self hll, h3.2.2.1]
  simp [Lib.byteCells]

theorem poked {w w1 : World} {B bb kb rb cb : Nat} {T U : List UInt8} (hb : Below B w w1) (h : BWn w1 B bb kb rb cb T U U.length) (hU : U.length < 4096) (c : UInt8) :
    (∃ T' U', BWn ((w1.setCell ⟨rb, U.length, none⟩ (.int .u8 (c.toNat : Int))).setCell ⟨kb, 2, none⟩ (.int .i64 ((U.length : Int) + 1))).drew B bb kb rb cb T' U' U'.length ∧ T' ++ U' = T ++ U ++ [c]) ∧ Below B w ((w1.setCell ⟨rb, U.length, none⟩ (.int .u8 (c.toNat : Int))).setCell ⟨kb, 2, none⟩ (.int .i64 ((U.length : Int) + 1))).drew := by
  obtain ⟨h1, h2⟩ := h.poke hU c
  have h3 := (h1.setN (U.length + 1)).heap (w' := ((w1.setCell ⟨rb, U.length, none⟩ (.int .u8 (c.toNat : Int))).setCell ⟨kb, 2, none⟩ (.int .i64 ((U.length : Int) + 1))).drew) (by simp [World.drew])
  refine ⟨⟨T, U ++ [c], by rw [List.length_append]; exact h3, by simp⟩, ((hb.trans h2).trans (h1.below_setN 2 _)).drew⟩

set_option maxHeartbeats 4000000 in
set_option maxRecDepth 100000 in
theorem writeByte_any (B bb kb rb cb : Nat) (T U : List UInt8) (c : UInt8) (w : World) (h : BWn w B bb kb rb cb T U U.length) (hlim : T.length + U.length ≤ 140737488355328) :
    Calls Tryd.prog 13 #[.pointer (some ⟨kb, 0, none⟩), .int .u8 (c.toNat : Int)] w fun e w' => e = .returned .nilIface ∧ (∃ T' U', BWn w' B bb kb rb cb T' U' U'.length ∧ T' ++ U' = T ++ U ++ [c]) ∧ Below B w w' := by
  obtain ⟨k0, k1, k2, k3, k4, kf⟩ := h.cells
  have hle := h.ule
  have HN := h.ne
  have HN' : kb ≠ rb := fun e => HN e.symm
  have HB := hid h
  clear h
  obtain ⟨C, hC⟩ : ∃ C : Int, C = (c.toNat : Int) := ⟨_, rfl⟩
  rw [← hC]
  have HC := hid hC
  clear hC
  go_enter Tryd.func13, Tryd.ntmps13
  go_wp2_with (go_at_call 18; refine (avail_any B bb kb rb cb T U U.length _ ?_ hle).mono ?_)
  · exact HB.out
  rintro e w1 ⟨rfl, h1, hb1, hs1⟩
  clear k0 k1 k2 k3 k4 kf hs1
  by_cases hU : U.length < 4096
  · obtain ⟨k0, k1, k2, k3, k4, kf⟩ := h1.cells
    obtain ⟨⟨x, hx⟩, hxf⟩ := h1.at U.length hU
    have H1 := hid h1
    have HL1 := hid hb1
    clear h1 hb1
    go_wp2
    go_region
    go_wp2
    go_ret
    rw [HC.out]
    exact ⟨rfl, poked HL1.out H1.out hU c⟩
  · have hU' : U.length = 4096 := by omega
    have H1 := hid h1
    have HL1 := hid hb1
    clear h1 hb1
    have HE := hid hU'
    have ht : ((4096 : Int) - (U.length : Int) ≤ 0) := by omega
    go_wp2_with (go_at_call 10; refine (flush_any B bb kb rb cb T U _ ?_ hlim).mono ?_)
    · exact H1.out
    rintro e w2 ⟨rfl, h2, hb2⟩
    obtain ⟨k0, k1, k2, k3, k4, kf⟩ := h2.cells
    obtain ⟨⟨x, hx⟩, hxf⟩ := h2.at 0 (by omega)
    have H2 := hid h2
    have HL2 := hid (HL1.out.trans hb2)
    clear h2 hb2
    go_wp2
    go_region
    go_wp2
    go_ret
    rw [HC.out]
    have := poked (U := []) HL2.out H2.out (by simp) c
    simp only [List.append_nil] at this
    exact ⟨rfl, this⟩
end Go.Proofs.Qxb6614137aDoor
