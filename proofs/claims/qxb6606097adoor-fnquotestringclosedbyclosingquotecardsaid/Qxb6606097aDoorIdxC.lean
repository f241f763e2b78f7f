import Derived.Test.Qxb6606097aDoorIdxB
import Derived.Test.Qxb6606097aDoorShelfC
set_option linter.unusedSimpArgs false
set_option linter.unusedVariables false
namespace Go.Proofs.Qxb6606097aDoor
open Go.RowKit Go.PlainAid

/-- The set of the quote and the backslash, as cells. -/
def setC : Array Value := Lib.setCells [39, 92]
theorem setC_size : setC.size = 256 := Lib.setCells_size _
theorem setC_at (x : UInt8) : setC[x.toNat]? = some (.bool (([39, 92] : List UInt8).contains x)) := Lib.setCells_at _ _

theorem ascii39 : ∀ (j : Nat) b, (⟨#[39, 92]⟩ : ByteArray).data.toList[j]? = some b → b.toNat < 128 := by
  intro j b h
  match j, h with
  | 0, h => simp at h; subst h; decide
  | 1, h => simp at h; subst h; decide
  | j + 2, h => simp at h

theorem make38 (w : World) : Calls Tryd.prog 38 #[.string ⟨#[39, 92]⟩] w fun e w' => e = .returned (.tuple #[.agg setC, .bool true]) ∧ w' = w.alloc (.cells setC 61) :=
  Any.bytes_makeASCIISet Tryd.laysV11 (fun _ => by kernel_rfl) (by kernel_rfl) ⟨#[39, 92]⟩ w (by decide) (ascii39)

theorem contains39 (b : Nat) (x : UInt8) (v : Bool) (w : World) (hc : w.cell? ⟨b, x.toNat, none⟩ = some (.bool v)) :
    Calls Tryd.prog 39 #[.pointer (some ⟨b, 0, none⟩), .int .u8 x.toNat] w fun e w' => e = .returned (.bool v) ∧ w' = w := Any.bytes_asciiSet_contains Tryd.laysV16 b x v w hc

set_option maxHeartbeats 1000000 in
set_option maxRecDepth 100000 in
theorem any2_long (t : ByteArray) (b off cap : Nat) (w : World) (p : Nat) (h8 : 8 < t.size) (hz : t.size ≤ 9223372036854775807) (hp : p < t.size) (hb : b < w.heap.size) (hc : BytesAt w b off t) (hx : bt t p = 39 ∨ bt t p = 92) (hn : ∀ j, j < p → bt t j ≠ 39 ∧ bt t j ≠ 92) :
    Calls Tryd.prog 25 #[.slice (some ⟨b, off, none⟩) t.size cap, .string ⟨#[39, 92]⟩] w fun e w' => e = .returned (.int .i64 p) ∧ Below w.heap.size w w' := by
  have HC := hid hc
  have HX := hid hx
  have HN := hid hn
  clear hc hx hn
  have e1 : ((t.size : Int) == 1) = false := by rw [beq_eq_false_iff_ne]; omega
  have h8z : decide ((8 : Int) < (t.size : Int)) = true := decide_eq_true (by omega)
  have h8i : (8 : Int) < (t.size : Int) := by omega
  have hsc : (storeCells ⟨w.heap.size + 1, 0, none⟩ setC.toList).run Tryd.prog ((w.alloc (.cells setC 61)).alloc (.cells Tryd.zeroCells61 61)) = .ok () ((w.alloc (.cells setC 61)).alloc (.cells setC 61)) := by
    have := run_storeCells_new (P := Tryd.prog) (w.alloc (.cells setC 61)) 61 Tryd.zeroCells61 setC (by rw [setC_size]; kernel_rfl) (by rw [setC_size]; kernel_rfl) (Lib.setCells_one _)
    simpa using this
  go_enter Tryd.func25, Tryd.ntmps25
  go_wp2_with (first | (go_at_call 37; go_in) | (go_at_call 38; refine (make38 _).mono ?_; rintro e w' ⟨rfl, hw⟩; rw [hw]))
  clear hsc
  obtain ⟨W, hW⟩ : ∃ W, W = (w.alloc (.cells setC 61)).alloc (.cells setC 61) := ⟨_, rfl⟩
  have hbel : Below w.heap.size w W := by rw [hW]; exact ((Below.refl _ _).alloc (Nat.le_refl _) _).alloc (by simp) _
  have hset : Hid (∀ x : UInt8, W.cell? ⟨w.heap.size + 1, x.toNat, none⟩ = some (.bool (([39, 92] : List UInt8).contains x))) := fun x => by
    rw [hW, World.cell?_alloc_at _ _ _ _ (by simp), setC_at]
  rw [← hW]
  clear hW
  go_loop [62] (fun v => ∃ i : Nat, i ≤ p ∧ v = .int .i64 i) (fun v => t.size - (intOf v).toNat)
  case atStart => exact ⟨0, Nat.zero_le _, rfl⟩
  case round =>
    obtain ⟨i, hi, rfl⟩ := hrel
    have hit : i < t.size := by omega
    have hci : W.cell? ⟨b, off + i, none⟩ = some (.int .u8 (bt t i)) := (hbel.cell (p := ⟨b, off + i, none⟩) hb).trans (HC.out i hit)
    have hxx := hset.out (t[i]'hit)
    have hbi := get_bt t i hit
    rcases Nat.lt_or_eq_of_le hi with hlt | heq
    · have hno := HN.out i hlt
      have hcon : ([39, 92] : List UInt8).contains (t[i]'hit) = false := by
        have n1 := bt_ne t i hit 39 hno.1
        have n2 := bt_ne t i hit 92 hno.2
        simp [n1, n2]
      rw [hcon] at hxx
      have CC := hid (contains39 _ _ _ _ hxx)
      rw [hbi] at CC
      clear hxx hcon hno hbi
      go_wp2_with fail
      refine CC.out.mono ?_
      rintro e w' ⟨rfl, hw⟩
      replace hw := hw.symm; subst hw
      go_wp2
      go_round
      case rel => exact ⟨i + 1, by omega, by go_num⟩
      case measure => simp [intOf]; omega
    · subst heq
      have hcon : ([39, 92] : List UInt8).contains (t[i]'hit) = true := by
        rcases HX.out with h | h
        · rw [bt_eq t i hit 39 h]; rfl
        · rw [bt_eq t i hit 92 h]; rfl
      rw [hcon] at hxx
      have CC := hid (contains39 _ _ _ _ hxx)
      rw [hbi] at CC
      clear hxx hcon hbi
      go_wp2_with fail
      refine CC.out.mono ?_
      rintro e w' ⟨rfl, hw⟩
      replace hw := hw.symm; subst hw
      go_wp2
      go_ret
      exact ⟨rfl, hbel⟩
end Go.Proofs.Qxb6606097aDoor
