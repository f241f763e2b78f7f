import Derived.Test.Qxb6614137aDoorShelf
import Derived.Test.Qxb6614137aDoorWalkB
import Derived.Shelf.RegionOpenPlain
import Derived.Lib.ByteType
import Derived.Lib.BufferOwn
import Derived.Lib.Walk
import Derived.Lib.BufferMore
import Derived.Lib.BufferGrow
import Derived.Lib.BufferWrite
import Derived.Lib.BufferSrc
import Derived.Lib.Hide
import Derived.Laws.MakeOwn
import Derived.RegionTactic
import Derived.Deep.RegionWith
import Derived.Deep.Draws
import Derived.BigCall
import Derived.BigGuard
set_option linter.unusedSimpArgs false
set_option linter.unusedVariables false
namespace Go.Proofs.Qxb6614137aDoor
open Go.RowKit Go.PlainAid

/-- The Buffer's block. -/
def BB (w : World) (bb : Nat) (v : Value) : Prop := ∃ lr, w.heap[bb]? = some (.cells #[v, .int .i64 0, .int .i8 lr] 33 (0, 0))

/-- What grow leaves: n more cells, in a new row; no other old block has turned. -/
def Grew (B bb n : Nat) (T : List Value) (w w' : World) : Prop :=
  ∃ xs v' g', xs.length = n ∧ Lib.IsBuffer 33 5 B bb (T ++ xs) w' ∧ BB w' bb v' ∧ v'.ownBlock = some g' ∧ w.heap.size ≤ g' ∧ Below B w w' ∧ w.grownBy w' (some bb)

theorem bb_set3 {w : World} {bb : Nat} {v : Value} (h : BB w bb v) (v1 v2 : Value) : BB (((w.setCell ⟨bb, 0, none⟩ v1).setCell ⟨bb, 1, none⟩ (.int .i64 0)).setCell ⟨bb, 0, none⟩ v2) bb v2 := by
  obtain ⟨lr, h⟩ := h
  exact ⟨lr, Lib.heap_setCell_same (i := 0) (Lib.heap_setCell_same (i := 1) (Lib.heap_setCell_same (i := 0) h v1) (.int .i64 0)) v2⟩

set_option maxHeartbeats 12800000 in
set_option maxRecDepth 100000 in
/-- grow: a row with at least one byte and no room. -/
theorem grow_row (B bb g l cap n : Nat) (lr : Int) (cur : Array Value) (T : List Value) (w : World) (hB : B ≤ bb) (hBw : B ≤ w.heap.size)
    (hbk : w.heap[bb]? = some (.cells #[.slice (some ⟨g, 0, none⟩) l cap, .int .i64 0, .int .i8 lr] 33 (0, 0)))
    (hl : T.length = l) (hl0 : ¬ l = 0) (hBg : B ≤ g) (hg : w.heap[g]? = some (.cells cur 5 (0, 0))) (hlc : l ≤ cap) (hcm : cap ≤ maxLen) (hcs : cur.size = cap) (htake : cur.toList.take l = T) (hgb : g ≠ bb)
    (h1 : ∀ v ∈ T, v.oneCell' = true) (hn : 1 ≤ n) (hroom : cap - l < n) (hlim : l + n ≤ 140737488355328) :
    Calls Tryd.prog 61 #[.pointer (some ⟨bb, 0, none⟩), .int .i64 n] w fun e w' => e = .returned (.int .i64 l) ∧ Grew B bb n T w w' := by
  have hIs : Lib.IsBuffer 33 5 B bb T w := ⟨hB, _, _, hbk, ⟨by rw [hl, Nat.mul_one], .inr ⟨g, cap, cur, by rw [hl], hBg, hg, by omega, hcm, by omega, by rw [hl, Nat.mul_one]; exact htake⟩⟩, by simp [Value.ownBlock]; exact hgb⟩
  have hnil : ∀ W, (binOp .eql 29 (.slice (some ⟨g, 0, none⟩) l cap) (.slice none 0 0)).run Tryd.prog W = .ok (.bool false) W := fun W => Lib.run_eql_slice_some_nil W _ _ _ Tryd.underlying29
  go_enter Tryd.func61, Tryd.ntmps61
  go_wp2_with (go_at_call 62; refine (Tryd.Buffer_Len B bb T _ hIs).mono ?_)
  rintro e W0 ⟨rfl, k, hW0⟩
  rw [hl]
  have hbk0 : W0.heap[bb]? = some (.cells #[.slice (some ⟨g, 0, none⟩) l cap, .int .i64 0, .int .i8 lr] 33 (0, 0)) := by rw [hW0]; exact hbk
  have hg0 : W0.heap[g]? = some (.cells cur 5 (0, 0)) := by rw [hW0]; exact hg
  have c0 : W0.cell? ⟨bb, 0, none⟩ = some (.slice (some ⟨g, 0, none⟩) l cap) := by rw [Lib.cell_of_heap hbk0]; rfl
  have c1 : W0.cell? ⟨bb, 1, none⟩ = some (.int .i64 0) := by rw [Lib.cell_of_heap hbk0]; rfl
  have f0 : W0.frozen? ⟨bb, 0, none⟩ = false := Lib.frozen_of_heap hbk0 0
  have f1 : W0.frozen? ⟨bb, 1, none⟩ = false := Lib.frozen_of_heap hbk0 1
  have HW0 := Lib.hid hW0
  clear hW0 hIs
  have hcm' := hcm
  unfold maxLen at hcm'
  go_wp2_with (go_at_call 60; refine (Tryd.Buffer_tryGrow_none bb _ l cap n _ c0 hlc hcm hroom).mono ?_; rintro e w' ⟨rfl, rfl⟩)
  have hc2 : cap ≤ 140737488355328 := by omega
  have h1' : ∀ v ∈ cur.toList.take l, v.oneCell' = true := by rw [htake]; exact h1
  have hbW := Lib.lt_of_heap hbk0
  have hwn : IntKind.i64.wrap (n : Int) = n := by rw [IntKind.wrap_i64]; omega
  go_region_with (
      go_at_call 63
      refine (Tryd.bytes_growSlice_row g l cap n cur _ ?_ hcs hlc hn hlim hc2 h1').mono ?_
      exact hg0
      rintro e w2 ⟨cap2, cells, rfl, hN, hcsz, htk, hcap2, hcm2, hbel⟩
      have hbk2 : w2.heap[bb]? = some (.cells #[.slice (some ⟨g, 0, none⟩) l cap, .int .i64 0, .int .i8 lr] 33 (0, 0)) := (hbel.block bb hbW).trans hbk0
      have d0 : w2.cell? ⟨bb, 0, none⟩ = some (.slice (some ⟨g, 0, none⟩) l cap) := by rw [Lib.cell_of_heap hbk2]; rfl
      have d1 : w2.cell? ⟨bb, 1, none⟩ = some (.int .i64 0) := by rw [Lib.cell_of_heap hbk2]; rfl
      have e0 : w2.frozen? ⟨bb, 0, none⟩ = false := Lib.frozen_of_heap hbk2 0
      have e1 : w2.frozen? ⟨bb, 1, none⟩ = false := Lib.frozen_of_heap hbk2 1)
  all_goals (
    go_wp2
    go_ret
    have hsz0 : w'.heap.size = w.heap.size := by rw [HW0.out]; rfl
    have hb0 : Below B w w'.drew := by rw [HW0.out]; exact ⟨rfl, rfl, rfl, Nat.le_refl _, fun _ _ => rfl⟩
    have hg2 : w.grownBy w2 (some bb) := Lib.grownBy_below (w := w'.drew) (by rw [HW0.out]; exact ⟨rfl, rfl, rfl, Nat.le_refl _, fun _ _ _ => rfl⟩) hbel
    obtain ⟨xs, q1, q2, q3⟩ := Lib.grow_end hB hbk2 hN (by show B ≤ w'.heap.size; omega) (by show w'.heap.size ≠ bb; omega) hcsz (htk.trans htake) hcap2 hcm2 (hb0.trans (hbel.mono (by show B ≤ w'.heap.size; omega))) _
    exact ⟨rfl, xs, _, w'.heap.size, q1, q2, bb_set3 ⟨lr, hbk2⟩ _ _, rfl, by omega, q3, Lib.grownBy_setB (Lib.grownBy_setB (Lib.grownBy_setB hg2 0 _) 1 _) 0 _⟩)

set_option maxHeartbeats 6400000 in
set_option maxRecDepth 100000 in
theorem grow_nil_small (B bb n : Nat) (lr : Int) (w : World) (hB : B ≤ bb) (hBw : B ≤ w.heap.size)
    (hbk : w.heap[bb]? = some (.cells #[.slice none 0 0, .int .i64 0, .int .i8 lr] 33 (0, 0))) (hn : 1 ≤ n) (h64 : n ≤ 64) :
    Calls Tryd.prog 61 #[.pointer (some ⟨bb, 0, none⟩), .int .i64 n] w fun e w' => e = .returned (.int .i64 0) ∧ Grew B bb n [] w w' := by
  obtain ⟨i0, hi, hz0, hz1, hz2⟩ := info_parts Tryd.info5
  obtain ⟨M, hM⟩ : ∃ M, M = madeCells (Value.int .u8 0).cells ((64 : Int).toNat * i0.size) := ⟨_, rfl⟩
  have hMs : M.size = 64 := by rw [hM, size_madeCells, hz1]; rfl
  have hmk : ∀ W : World, (Instr.makeSlice 29 (.int .i64 (n : Int)) (.int .i64 64)).run Tryd.prog W = .ok (.slice (some ⟨W.heap.size, 0, none⟩) n 64) (W.alloc (.cells M 5)) := fun W => by
    have h := run_makeSlice (P := Tryd.prog) W 29 5 i0 (.int .u8 0) Tryd.underlying29 hi hz0 .i64 .i64 (n : Int) 64 (by omega) (by omega) (by rw [hz1]; decide) (by rw [hz2]; decide) (by decide)
    rw [← hM] at h
    simpa using h
  clear hM
  have hIs : Lib.IsBuffer 33 5 B bb [] w := ⟨hB, _, _, hbk, World.ownsRow_nil _ _ _ _, by simp [Value.ownBlock]⟩
  have hnil : ∀ W, (binOp .eql 29 (.slice none 0 0) (.slice none 0 0)).run Tryd.prog W = .ok (.bool true) W := fun W => Lib.run_eql_slice_nil_nil W _ _ Tryd.underlying29
  go_enter Tryd.func61, Tryd.ntmps61
  go_wp2_with (go_at_call 62; refine (Tryd.Buffer_Len B bb [] _ hIs).mono ?_)
  rintro e W0 ⟨rfl, k, hW0⟩
  have hbk0 : W0.heap[bb]? = some (.cells #[.slice none 0 0, .int .i64 0, .int .i8 lr] 33 (0, 0)) := by rw [hW0]; exact hbk
  have c0 : W0.cell? ⟨bb, 0, none⟩ = some (.slice none 0 0) := by rw [Lib.cell_of_heap hbk0]; rfl
  have c1 : W0.cell? ⟨bb, 1, none⟩ = some (.int .i64 0) := by rw [Lib.cell_of_heap hbk0]; rfl
  have f0 : W0.frozen? ⟨bb, 0, none⟩ = false := Lib.frozen_of_heap hbk0 0
  have f1 : W0.frozen? ⟨bb, 1, none⟩ = false := Lib.frozen_of_heap hbk0 1
  have hbW0 := Lib.lt_of_heap hbk0
  have c0a : ∀ o, (W0.alloc o).cell? ⟨bb, 0, none⟩ = some (.slice none 0 0) := fun o => (World.cell?_of_block (a := ⟨bb, 0, none⟩) (Below.heap_alloc W0 o bb hbW0)).trans c0
  have f0a : ∀ o, (W0.alloc o).frozen? ⟨bb, 0, none⟩ = false := fun o => (World.frozen?_of_block (a := ⟨bb, 0, none⟩) (Below.heap_alloc W0 o bb hbW0)).trans f0
  have HW0 := Lib.hid hW0
  clear hW0 hIs
  go_wp2_with (go_at_call 60; refine (Tryd.Buffer_tryGrow_none bb _ 0 0 n _ c0 (Nat.le_refl _) (Nat.zero_le _) (by omega)).mono ?_; rintro e w' ⟨rfl, rfl⟩)
  go_ret
  have hsz0 : w'.heap.size = w.heap.size := by rw [HW0.out]; rfl
  have hb0 : Below B w w' := by rw [HW0.out]; exact ⟨rfl, rfl, rfl, Nat.le_refl _, fun _ _ => rfl⟩
  have hg0 : w.grownBy w' (some bb) := by rw [HW0.out]; exact ⟨rfl, rfl, rfl, Nat.le_refl _, fun _ _ _ => rfl⟩
  obtain ⟨xs, q1, q2, q3⟩ := Lib.grow_small_end hB hbk0 (by omega) hMs h64 (by unfold maxLen; omega) hb0
  refine ⟨rfl, xs, .slice (some ⟨w'.heap.size, 0, none⟩) n 64, w'.heap.size, q1, q2, ⟨lr, ?_⟩, rfl, by omega, q3, Lib.grownBy_allocR (Lib.grownBy_setB hg0 0 _) _⟩
  rw [Below.heap_alloc _ _ bb (by simp [World.setCell]; exact hbW0)]
  exact Lib.heap_setCell_same (i := 0) hbk0 _

set_option maxHeartbeats 12800000 in
set_option maxRecDepth 100000 in
theorem grow_nil_big (B bb n : Nat) (lr : Int) (w : World) (hB : B ≤ bb) (hBw : B ≤ w.heap.size)
    (hbk : w.heap[bb]? = some (.cells #[.slice none 0 0, .int .i64 0, .int .i8 lr] 33 (0, 0))) (h64 : 64 < n) (hlim : n ≤ 140737488355328) :
    Calls Tryd.prog 61 #[.pointer (some ⟨bb, 0, none⟩), .int .i64 n] w fun e w' => e = .returned (.int .i64 0) ∧ Grew B bb n [] w w' := by
  have hn : 1 ≤ n := by omega
  have hIs : Lib.IsBuffer 33 5 B bb [] w := ⟨hB, _, _, hbk, World.ownsRow_nil _ _ _ _, by simp [Value.ownBlock]⟩
  have hnil : ∀ W, (binOp .eql 29 (.slice none 0 0) (.slice none 0 0)).run Tryd.prog W = .ok (.bool true) W := fun W => Lib.run_eql_slice_nil_nil W _ _ Tryd.underlying29
  go_enter Tryd.func61, Tryd.ntmps61
  go_wp2_with (go_at_call 62; refine (Tryd.Buffer_Len B bb [] _ hIs).mono ?_)
  rintro e W0 ⟨rfl, k, hW0⟩
  have hbk0 : W0.heap[bb]? = some (.cells #[.slice none 0 0, .int .i64 0, .int .i8 lr] 33 (0, 0)) := by rw [hW0]; exact hbk
  have c0 : W0.cell? ⟨bb, 0, none⟩ = some (.slice none 0 0) := by rw [Lib.cell_of_heap hbk0]; rfl
  have c1 : W0.cell? ⟨bb, 1, none⟩ = some (.int .i64 0) := by rw [Lib.cell_of_heap hbk0]; rfl
  have f0 : W0.frozen? ⟨bb, 0, none⟩ = false := Lib.frozen_of_heap hbk0 0
  have f1 : W0.frozen? ⟨bb, 1, none⟩ = false := Lib.frozen_of_heap hbk0 1
  have HW0 := Lib.hid hW0
  clear hW0 hIs
  go_wp2_with (go_at_call 60; refine (Tryd.Buffer_tryGrow_none bb _ 0 0 n _ c0 (Nat.le_refl _) (Nat.zero_le _) (by omega)).mono ?_; rintro e w' ⟨rfl, rfl⟩)
  have hbW := Lib.lt_of_heap hbk0
  have hwn : IntKind.i64.wrap (n : Int) = n := by rw [IntKind.wrap_i64]; omega
  go_region_with (
      go_at_call 63
      refine (Tryd.bytes_growSlice_nil n _ hn hlim).mono ?_
      rintro e w2 ⟨cap2, cells, rfl, hN, hcsz, hcap2, hcm2, hbel⟩
      have hbk2 : w2.heap[bb]? = some (.cells #[.slice none 0 0, .int .i64 0, .int .i8 lr] 33 (0, 0)) := (hbel.block bb hbW).trans hbk0
      have d0 : w2.cell? ⟨bb, 0, none⟩ = some (.slice none 0 0) := by rw [Lib.cell_of_heap hbk2]; rfl
      have d1 : w2.cell? ⟨bb, 1, none⟩ = some (.int .i64 0) := by rw [Lib.cell_of_heap hbk2]; rfl
      have e0 : w2.frozen? ⟨bb, 0, none⟩ = false := Lib.frozen_of_heap hbk2 0
      have e1 : w2.frozen? ⟨bb, 1, none⟩ = false := Lib.frozen_of_heap hbk2 1)
  all_goals (
    go_wp2
    go_ret
    have hsz0 : w'.heap.size = w.heap.size := by rw [HW0.out]; rfl
    have hb0 : Below B w w'.drew := by rw [HW0.out]; exact ⟨rfl, rfl, rfl, Nat.le_refl _, fun _ _ => rfl⟩
    have hg2 : w.grownBy w2 (some bb) := Lib.grownBy_below (w := w'.drew) (by rw [HW0.out]; exact ⟨rfl, rfl, rfl, Nat.le_refl _, fun _ _ _ => rfl⟩) hbel
    obtain ⟨xs, q1, q2, q3⟩ := Lib.grow_end (l := 0) (n := n) (bs := []) hB hbk2 hN (by show B ≤ w'.heap.size; omega) (by show w'.heap.size ≠ bb; omega) hcsz (by simp) (by omega) hcm2 (hb0.trans (hbel.mono (by show B ≤ w'.heap.size; omega))) _
    exact ⟨rfl, xs, .slice (some ⟨w'.heap.size, 0, none⟩) n cap2, w'.heap.size, q1, by simpa using q2, by simpa using bb_set3 ⟨lr, hbk2⟩ _ (.slice (some ⟨w'.heap.size, 0, none⟩) (0 + n) cap2), rfl, by omega, by simpa using q3, Lib.grownBy_setB (Lib.grownBy_setB (Lib.grownBy_setB hg2 0 _) 1 _) 0 _⟩)

/-- grow, where there is no room; a row holds at least one byte. -/
theorem grow_any (B bb n : Nat) (T : List Value) (w : World) (h : Lib.IsBuffer 33 5 B bb T w) (hnr : Lib.NoRoom bb n w) (hne : T = [] → BB w bb (.slice none 0 0)) (h1 : ∀ v ∈ T, v.oneCell' = true) (hlim : T.length + n ≤ 140737488355328) :
    Calls Tryd.prog 61 #[.pointer (some ⟨bb, 0, none⟩), .int .i64 n] w fun e w' => e = .returned (.int .i64 T.length) ∧ Grew B bb n T w w' := by
  obtain ⟨ao, l, cap0, hc, hlt⟩ := hnr
  have hlt' := h.lt
  obtain ⟨hB, lr, hcs⟩ := h.cases
  have hBw : B ≤ w.heap.size := by omega
  rcases hcs with ⟨rfl, hbk⟩ | ⟨g, cap, cur, hbk, hBg, hg, hnc, hcm, hcs, htk, hgb⟩
  · have c0 : w.cell? ⟨bb, 0, none⟩ = some (.slice none 0 0) := by rw [Lib.cell_of_heap hbk]; rfl
    rw [c0] at hc
    cases hc
    by_cases h64 : n ≤ 64
    · exact grow_nil_small B bb n lr w hB hBw hbk (by omega) h64
    · exact grow_nil_big B bb n lr w hB hBw hbk (by omega) (by simpa using hlim)
  · have c0 : w.cell? ⟨bb, 0, none⟩ = some (.slice (some ⟨g, 0, none⟩) T.length cap) := by rw [Lib.cell_of_heap hbk]; rfl
    rw [c0] at hc
    cases hc
    refine grow_row B bb g T.length _ n lr cur T w hB hBw hbk rfl ?_ hBg hg hnc hcm hcs htk hgb h1 (by omega) hlt hlim
    intro h0
    obtain ⟨lr', hb⟩ := hne (List.eq_nil_of_length_eq_zero h0)
    rw [hbk] at hb
    simp at hb
end Go.Proofs.Qxb6614137aDoor
