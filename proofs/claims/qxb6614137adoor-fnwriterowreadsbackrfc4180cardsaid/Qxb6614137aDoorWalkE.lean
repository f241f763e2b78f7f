import Derived.Test.Qxb6614137aDoorWalkD
import Derived.BigQuiet
import Derived.Deep.RegionLaw
set_option linter.unusedSimpArgs false
set_option linter.unusedVariables false
namespace Go.Proofs.Qxb6614137aDoor
open Go.RowKit Go.PlainAid

/-- The bufio.Writer's block. -/
def Kb (w : World) (kb rb bb n : Nat) : Prop := w.heap[kb]? = some (.cells #[.nilIface, .slice (some ⟨rb, 0, none⟩) 4096 4096, .int .i64 n, .iface 36 (.pointer (some ⟨bb, 0, none⟩))] 53 (0, 0))
/-- Its row: the first bytes are U. -/
def Rw (w : World) (rb : Nat) (row : Array Value) (U : List UInt8) : Prop := w.heap[rb]? = some (.cells row 5 (0, 0)) ∧ row.size = 4096 ∧ row.toList.take U.length = Lib.byteCells U ∧ U.length ≤ 4096
/-- The csvfile.Writer's block. -/
def Cb (w : World) (cb kb : Nat) : Prop := w.heap[cb]? = some (.cells #[.pointer (some ⟨kb, 0, none⟩)] 40 (0, 0))
/-- The blocks are apart. -/
def Ap (B bb kb rb cb : Nat) (v : Value) : Prop := B ≤ kb ∧ B ≤ rb ∧ kb ≠ bb ∧ rb ≠ bb ∧ cb ≠ bb ∧ rb ≠ kb ∧ cb ≠ kb ∧ cb ≠ rb ∧ v.ownBlock ≠ some kb ∧ v.ownBlock ≠ some rb ∧ v.ownBlock ≠ some cb

/-- T has gone to the Buffer, U lies in the bufio.Writer's row, its count says n. -/
def BWn (w : World) (B bb kb rb cb : Nat) (T U : List UInt8) (n : Nat) : Prop :=
  ∃ v row, Bf w B bb v (Lib.byteCells T) ∧ Kb w kb rb bb n ∧ Rw w rb row U ∧ Cb w cb kb ∧ Ap B bb kb rb cb v

theorem Bf.heap {w w' : World} {B bb : Nat} {v : Value} {T : List Value} (h : Bf w B bb v T) (hh : w'.heap = w.heap) : Bf w' B bb v T := by
  unfold Bf Lib.IsBuffer BB World.ownsRow at *
  rw [hh]
  exact h
theorem BWn.heap {w w' : World} {B bb kb rb cb : Nat} {T U : List UInt8} {n : Nat} (h : BWn w B bb kb rb cb T U n) (hh : w'.heap = w.heap) : BWn w' B bb kb rb cb T U n := by
  obtain ⟨v, row, h1, h2, h3, h4, h5⟩ := h
  refine ⟨v, row, h1.heap hh, ?_, ?_, ?_, h5⟩
  · unfold Kb at *
    rw [hh]
    exact h2
  · unfold Rw at *
    rw [hh]
    exact h3
  · unfold Cb at *
    rw [hh]
    exact h4

theorem lt_blk {w : World} {b : Nat} {o : Obj} (h : w.heap[b]? = some o) : b < w.heap.size := (Array.getElem?_eq_some_iff.1 h).1

theorem BWn.cells {w : World} {B bb kb rb cb : Nat} {T U : List UInt8} {n : Nat} (h : BWn w B bb kb rb cb T U n) :
    w.cell? ⟨kb, 0, none⟩ = some .nilIface ∧ w.cell? ⟨kb, 1, none⟩ = some (.slice (some ⟨rb, 0, none⟩) 4096 4096) ∧ w.cell? ⟨kb, 2, none⟩ = some (.int .i64 n) ∧ w.cell? ⟨kb, 3, none⟩ = some (.iface 36 (.pointer (some ⟨bb, 0, none⟩))) ∧
      w.cell? ⟨cb, 0, none⟩ = some (.pointer (some ⟨kb, 0, none⟩)) ∧ ∀ j, w.frozen? ⟨kb, j, none⟩ = false := by
  obtain ⟨v, row, h1, h2, h3, h4, h5⟩ := h
  refine ⟨?_, ?_, ?_, ?_, ?_, fun j => Lib.frozen_of_heap h2 j⟩
  · rw [Lib.cell_of_heap h2]; rfl
  · rw [Lib.cell_of_heap h2]; rfl
  · rw [Lib.cell_of_heap h2]; rfl
  · rw [Lib.cell_of_heap h2]; rfl
  · rw [Lib.cell_of_heap h4]; rfl

theorem BWn.ule {w : World} {B bb kb rb cb : Nat} {T U : List UInt8} {n : Nat} (h : BWn w B bb kb rb cb T U n) : U.length ≤ 4096 := by
  obtain ⟨v, row, h1, h2, h3, h4, h5⟩ := h
  exact h3.2.2.2

theorem BWn.nil {w : World} {B bb kb rb cb : Nat} {T U : List UInt8} {n : Nat} (h : BWn w B bb kb rb cb T U n) : BWn w B bb kb rb cb T [] n := by
  obtain ⟨v, row, h1, h2, h3, h4, h5⟩ := h
  exact ⟨v, row, h1, h2, ⟨h3.1, h3.2.1, rfl, Nat.zero_le _⟩, h4, h5⟩

/-- A block other than these has turned (or a cell of kb). -/
theorem bf_away {w w' : World} {B bb k : Nat} {v : Value} {T : List Value} (h : Bf w B bb v T) (hg : w.grownBy w' (some k)) (hk : k ≠ bb) (hv : v.ownBlock ≠ some k) : Bf w' B bb v T := by
  obtain ⟨⟨hB, v0, lr, hbk, hown, hne⟩, ⟨lr', hv'⟩, hnil⟩ := h
  have e : v = v0 := BB.inj ⟨lr', hv'⟩ ⟨lr, hbk⟩
  subst e
  have hb : w'.heap[bb]? = w.heap[bb]? := hg.block bb (lt_blk hbk) (fun e => hk (Option.some.inj e).symm)
  exact ⟨⟨hB, v, lr, hb.trans hbk, hown.kept hg (Or.inr hv), hne⟩, ⟨lr', hb.trans hv'⟩, hnil⟩

theorem BWn.setN {w : World} {B bb kb rb cb : Nat} {T U : List UInt8} {n : Nat} (h : BWn w B bb kb rb cb T U n) (m : Nat) : BWn (w.setCell ⟨kb, 2, none⟩ (.int .i64 m)) B bb kb rb cb T U m := by
  obtain ⟨v, row, h1, h2, h3, h4, h5⟩ := h
  obtain ⟨a1, a2, a3, a4, a5, a6, a7, a8, a9, a10, a11⟩ := id h5
  refine ⟨v, row, bf_away h1 (Lib.grownBy_setCell w kb 2 _) a3 a9, Lib.heap_setCell_same (i := 2) h2 _, ⟨?_, h3.2⟩, ?_, h5⟩
  · rw [Below.heap_setCell _ _ _ _ a6]; exact h3.1
  · show _ = _
    rw [Below.heap_setCell _ _ _ _ a7]; exact h4

theorem BWn.below_setN {w : World} {B bb kb rb cb : Nat} {T U : List UInt8} {n : Nat} (h : BWn w B bb kb rb cb T U n) (m : Nat) (v : Value) : Below B w (w.setCell ⟨kb, m, none⟩ v) := by
  obtain ⟨_, row, h1, h2, h3, h4, h5⟩ := h
  exact (Below.refl B w).setCell (p := ⟨kb, m, none⟩) h5.1 _

/-- Behind a write into the Buffer. -/
theorem BWn.wrote {w w' : World} {B bb kb rb cb : Nat} {T U X : List UInt8} {n : Nat} {v v' : Value} {row : Array Value} (h2 : Kb w kb rb bb n) (h3 : Rw w rb row U) (h4 : Cb w cb kb) (h5 : Ap B bb kb rb cb v)
    (hb : Bf w' B bb v' (Lib.byteCells T ++ Lib.byteCells X)) (ha : Away w w' bb v v') : BWn w' B bb kb rb cb (T ++ X) U n := by
  obtain ⟨a1, a2, a3, a4, a5, a6, a7, a8, a9, a10, a11⟩ := h5
  obtain ⟨p1, q1⟩ := ha kb (lt_blk h2) a3 a9
  obtain ⟨p2, q2⟩ := ha rb (lt_blk h3.1) a4 a10
  obtain ⟨p3, q3⟩ := ha cb (lt_blk h4) a5 a11
  refine ⟨v', row, ?_, p1.trans h2, ⟨p2.trans h3.1, h3.2⟩, p3.trans h4, a1, a2, a3, a4, a5, a6, a7, a8, q1, q2, q3⟩
  have : Lib.byteCells (T ++ X) = Lib.byteCells T ++ Lib.byteCells X := by simp [Lib.byteCells]
  rw [this]
  exact hb

/-- (*bytes.Buffer).Write of what lies in the row. -/
theorem bw_write (B bb kb rb cb : Nat) (T U : List UInt8) (n : Nat) (w : World) (h : BWn w B bb kb rb cb T U n) (hU : 1 ≤ U.length) (hlim : T.length + U.length ≤ 140737488355328) :
    Calls Tryd.prog 58 #[.pointer (some ⟨bb, 0, none⟩), .slice (some ⟨rb, 0, none⟩) U.length 4096] w fun e w' => e = .returned (.tuple #[.int .i64 U.length, .nilIface]) ∧ BWn w' B bb kb rb cb (T ++ U) U n ∧ Below B w w' := by
  obtain ⟨v, row, h1, h2, h3, h4, h5⟩ := h
  refine (write_any B bb (Lib.byteCells T) (Lib.byteCells U) v ⟨rb, 0, none⟩ U.length 4096 w h1 (Lib.byteCells_one _) (Lib.byteCells_length _) hU h5.2.2.2.1 ?_ (Lib.byteCells_one _) (by rw [Lib.byteCells_length]; exact hlim)).mono ?_
  · rw [← h3.2.2.1]
    exact Lib.cells_of_row h3.1 U.length
  · rintro e w' ⟨rfl, v', hb, hbel, ha⟩
    exact ⟨rfl, BWn.wrote h2 h3 h4 h5 hb ha, hbel⟩

/-- (*bytes.Buffer).WriteString. -/
theorem bw_writeString (B bb kb rb cb : Nat) (T U : List UInt8) (n : Nat) (s : ByteArray) (w : World) (h : BWn w B bb kb rb cb T U n) (hs : 1 ≤ s.size) (hlim : T.length + s.size ≤ 140737488355328) :
    Calls Tryd.prog 59 #[.pointer (some ⟨bb, 0, none⟩), .string s] w fun e w' => e = .returned (.tuple #[.int .i64 s.size, .nilIface]) ∧ BWn w' B bb kb rb cb (T ++ s.data.toList) U n ∧ Below B w w' := by
  obtain ⟨v, row, h1, h2, h3, h4, h5⟩ := h
  refine (writeString_any B bb (Lib.byteCells T) s v w h1 (Lib.byteCells_one _) hs (by rw [Lib.byteCells_length]; exact hlim)).mono ?_
  rintro e w' ⟨rfl, v', hb, hbel, ha⟩
  exact ⟨rfl, BWn.wrote h2 h3 h4 h5 hb ha, hbel⟩

set_option maxHeartbeats 1000000 in
theorem avail_any (B bb kb rb cb : Nat) (T U : List UInt8) (n : Nat) (w : World) (h : BWn w B bb kb rb cb T U n) (hn : n ≤ 4096) :
    Calls Tryd.prog 18 #[.pointer (some ⟨kb, 0, none⟩)] w fun e w' => e = .returned (.int .i64 (4096 - (n : Int))) ∧ BWn w' B bb kb rb cb T U n ∧ Below B w w' ∧ w'.heap.size = w.heap.size := by
  obtain ⟨k0, k1, k2, k3, k4, kf⟩ := h.cells
  have HB := hid h
  clear h
  go_enter Tryd.func18, Tryd.ntmps18
  go_wp2
  go_quiet (fail)
  go_wp2
  go_ret
  exact ⟨rfl, HB.out.heap rfl, ⟨rfl, rfl, rfl, Nat.le_refl _, fun _ _ => rfl⟩, rfl⟩

set_option maxHeartbeats 1000000 in
theorem buffered_any (B bb kb rb cb : Nat) (T U : List UInt8) (n : Nat) (w : World) (h : BWn w B bb kb rb cb T U n) :
    Calls Tryd.prog 19 #[.pointer (some ⟨kb, 0, none⟩)] w fun e w' => e = .returned (.int .i64 n) ∧ w' = w := by
  obtain ⟨k0, k1, k2, k3, k4, kf⟩ := h.cells
  clear h
  go_enter Tryd.func19, Tryd.ntmps19
  go_wp2
  go_ret
  exact ⟨rfl, rfl⟩
end Go.Proofs.Qxb6614137aDoor
