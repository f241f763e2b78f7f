import Derived.Test.Qxb6614137aDoorWalkG
import Derived.Laws.MakeOwn
set_option linter.unusedSimpArgs false
set_option linter.unusedVariables false
namespace Go.Proofs.Qxb6614137aDoor
open Go.RowKit Go.PlainAid

theorem alloc_size (w : World) (o : Obj) : (w.alloc o).heap.size = w.heap.size + 1 := by
  show (w.heap.push o).size = _
  simp
theorem alloc_new (w : World) (o : Obj) (k : Nat) (h : k = w.heap.size) : (w.alloc o).heap[k]? = some o := by
  subst h
  show (w.heap.push o)[w.heap.size]? = _
  simp
theorem alloc_old (w : World) (o : Obj) (k : Nat) (h : k < w.heap.size) : (w.alloc o).heap[k]? = w.heap[k]? := Below.heap_alloc w o k h

/-- The new bufio.Writer's row and block. -/
def newBW (w : World) (M : Array Value) (bb : Nat) : World :=
  (w.alloc (.cells M 5)).alloc (.cells #[.nilIface, .slice (some ⟨w.heap.size, 0, none⟩) 4096 4096, .int .i64 0, .iface 36 (.pointer (some ⟨bb, 0, none⟩))] 53)

theorem assert_bw (v : Value) (w : World) : (Instr.typeAssert (.iface 36 v) 46 38 true).run Tryd.prog w = .ok (.tuple #[.pointer none, .bool false]) w := by kernel_rfl

set_option maxHeartbeats 1000000 in
theorem newSize_any (bb : Nat) (w : World) :
    Calls Tryd.prog 17 #[.iface 36 (.pointer (some ⟨bb, 0, none⟩)), .int .i64 4096] w fun e w' => e = .returned (.pointer (some ⟨w.heap.size + 1, 0, none⟩)) ∧ ∃ M, M.size = 4096 ∧ w' = newBW w M bb := by
  obtain ⟨i0, hi, hz0, hz1, hz2⟩ := info_parts Tryd.info5
  obtain ⟨M, hM⟩ : ∃ M, M = madeCells (Value.int .u8 0).cells ((4096 : Int).toNat * i0.size) := ⟨_, rfl⟩
  have hMs : Hid (M.size = 4096) := hid (by rw [hM, size_madeCells, hz1]; rfl)
  have hmk : ∀ W : World, (Instr.makeSlice 29 (.int .i64 4096) (.int .i64 4096)).run Tryd.prog W = .ok (.slice (some ⟨W.heap.size, 0, none⟩) 4096 4096) (W.alloc (.cells M 5)) := fun W => by
    have h := run_makeSlice (P := Tryd.prog) W 29 5 i0 (.int .u8 0) Tryd.underlying29 hi hz0 .i64 .i64 4096 4096 (by omega) (by omega) (by rw [hz1]; decide) (by rw [hz2]; decide) (by decide)
    rw [← hM] at h
    simpa using h
  clear hM hi hz0 hz1 hz2
  have hta := assert_bw
  go_enter Tryd.func17, Tryd.ntmps17
  go_wp2
  go_ret
  exact ⟨rfl, M, hMs.out, rfl⟩

set_option maxHeartbeats 1000000 in
theorem new_any (bb : Nat) (w : World) :
    Calls Tryd.prog 12 #[.iface 36 (.pointer (some ⟨bb, 0, none⟩))] w fun e w' => e = .returned (.pointer (some ⟨w.heap.size + 1, 0, none⟩)) ∧ ∃ M, M.size = 4096 ∧ w' = newBW w M bb := by
  go_enter Tryd.func12, Tryd.ntmps12
  go_wp2_with (go_at_call 17; refine (newSize_any bb _).mono ?_)
  rintro e w1 ⟨rfl, M, hM, hw⟩
  have HM := hid hM
  have HW := hid hw
  clear hM hw
  go_wp2
  go_ret
  exact ⟨rfl, M, HM.out, HW.out⟩

set_option maxHeartbeats 1000000 in
theorem newCsv_any (bb : Nat) (w : World) :
    Calls Tryd.prog 8 #[.iface 36 (.pointer (some ⟨bb, 0, none⟩))] w fun e w' => e = .returned (.pointer (some ⟨w.heap.size + 2, 0, none⟩)) ∧ ∃ M, M.size = 4096 ∧ w' = (newBW w M bb).alloc (.cells #[.pointer (some ⟨w.heap.size + 1, 0, none⟩)] 40) := by
  go_enter Tryd.func8, Tryd.ntmps8
  go_wp2_with (go_at_call 12; refine (new_any bb _).mono ?_)
  rintro e w1 ⟨rfl, M, hM, hw⟩
  have HM := hid hM
  have hs1 : w1.heap.size = w.heap.size + 2 := by rw [hw]; unfold newBW; rw [alloc_size, alloc_size]
  have HW := hid hw
  clear hM hw
  have HS := hid hs1
  clear hs1
  go_wp2
  go_ret
  rw [← HS.out]
  exact ⟨rfl, M, HM.out, by rw [← HW.out]⟩

theorem BWn.fresh (w : World) (M : Array Value) (hM : M.size = 4096) :
    BWn ((newBW (w.alloc (.cells #[.slice none 0 0, .int .i64 0, .int .i8 0] 33)) M w.heap.size).alloc (.cells #[.pointer (some ⟨w.heap.size + 2, 0, none⟩)] 40)) w.heap.size w.heap.size (w.heap.size + 2) (w.heap.size + 1) (w.heap.size + 3) [] [] 0 := by
  have s1 := alloc_size w (.cells #[.slice none 0 0, .int .i64 0, .int .i8 0] 33)
  have b1 := alloc_new w (.cells #[.slice none 0 0, .int .i64 0, .int .i8 0] 33) w.heap.size rfl
  generalize w.alloc (.cells #[.slice none 0 0, .int .i64 0, .int .i8 0] 33) = w1 at s1 b1 ⊢
  unfold newBW
  have s2 := alloc_size w1 (.cells M 5)
  have r2 := alloc_new w1 (.cells M 5) (w.heap.size + 1) (by omega)
  have b2 := (alloc_old w1 (.cells M 5) w.heap.size (by omega)).trans b1
  generalize w1.alloc (.cells M 5) = w2 at s2 r2 b2 ⊢
  rw [s1]
  generalize hk : Obj.cells #[.nilIface, .slice (some ⟨w.heap.size + 1, 0, none⟩) 4096 4096, .int .i64 0, .iface 36 (.pointer (some ⟨w.heap.size, 0, none⟩))] 53 = ok
  have s3 := alloc_size w2 ok
  have k3 := alloc_new w2 ok (w.heap.size + 2) (by omega)
  have r3 := (alloc_old w2 ok (w.heap.size + 1) (by omega)).trans r2
  have b3 := (alloc_old w2 ok w.heap.size (by omega)).trans b2
  generalize w2.alloc ok = w3 at s3 k3 r3 b3 ⊢
  have c4 := alloc_new w3 (.cells #[.pointer (some ⟨w.heap.size + 2, 0, none⟩)] 40) (w.heap.size + 3) (by omega)
  have k4 := (alloc_old w3 (.cells #[.pointer (some ⟨w.heap.size + 2, 0, none⟩)] 40) (w.heap.size + 2) (by omega)).trans k3
  have r4 := (alloc_old w3 (.cells #[.pointer (some ⟨w.heap.size + 2, 0, none⟩)] 40) (w.heap.size + 1) (by omega)).trans r3
  have b4 := (alloc_old w3 (.cells #[.pointer (some ⟨w.heap.size + 2, 0, none⟩)] 40) w.heap.size (by omega)).trans b3
  subst hk
  refine ⟨.slice none 0 0, M, ⟨⟨Nat.le_refl _, .slice none 0 0, 0, b4, World.ownsRow_nil _ _ _ _, by simp [Value.ownBlock]⟩, ⟨0, b4⟩, fun _ => rfl⟩, k4, ⟨r4, hM, rfl, by simp⟩, c4, ?_⟩
  unfold Ap
  simp [Value.ownBlock]
end Go.Proofs.Qxb6614137aDoor
