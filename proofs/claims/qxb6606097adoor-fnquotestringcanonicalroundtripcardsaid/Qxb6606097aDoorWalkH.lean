import Derived.Test.Qxb6606097aDoorWalkG
import Derived.Deep.QuietTactic
import Derived.BigQuiet
set_option linter.unusedSimpArgs false
set_option linter.unusedVariables false
namespace Go.Proofs.Qxb6606097aDoor
open Go.RowKit Go.PlainAid

theorem chain {w1 w2 w3 : World} {B : Nat} (h : Below B w1 w2) (k : Below w2.heap.size w2 w3) (hB : B ≤ w1.heap.size) : Below B w1 w3 :=
  h.trans (k.mono (Nat.le_trans hB h.size))

set_option maxHeartbeats 1000000 in
theorem round_any (s : ByteArray) (m : Int) (w : World) (hs0 : s.size ≤ 9223372036854775807) (hm : w.cell? ⟨0, 0, none⟩ = some (.int .i64 m)) (h0 : 0 < w.heap.size) :
    Calls Tryd.prog 3 #[.string s] w fun e w' => e = .returned (.bool true) ∧ Below w.heap.size w w' := by
  have C7 := hid (bytes7_any s w hs0)
  have HM := hid hm
  clear hm
  go_enter Tryd.func3, Tryd.ntmps3
  go_wp2_with fail
  refine C7.out.mono ?_
  rintro e w' ⟨he, hw⟩
  replace hw := hw.symm; subst hw
  rcases he.cases with ⟨rfl, hs⟩ | rfl
  rotate_left
  · go_wp2
    go_ret
    exact ⟨rfl, Below.refl _ _⟩
  clear he C7
  have C8 := hid (quote_any s m w hs HM.out h0)
  have hs' : (s.size : Int) ≤ 1048576 := by omega
  go_wp2_with fail
  refine C8.out.mono ?_
  rintro e w1 ⟨rfl, hb1⟩
  clear C8
  have hR : ∃ (q : ByteArray) (b : Bool), quB s = q ∧ Pl.hasCtl s.data.toList = b ∧ 0 < q.size ∧ (bt q 0 == 69) = b ∧ ∀ w, Calls Tryd.prog 9 #[.string q] w fun e w' => e = .returned (.tuple #[.string s, .bool true]) ∧ Below w.heap.size w w' := by
    cases hc : Pl.hasCtl s.data.toList with
    | true =>
      refine ⟨esB s, true, by unfold quB; rw [hc, if_pos rfl], rfl, by rw [esB_size]; omega, by rw [esB_first]; rfl, fun w => read_esc s w hs⟩
    | false =>
      refine ⟨plB s, false, by unfold quB; rw [hc, if_neg (by decide)], rfl, by rw [plB_size]; omega, by rw [plB_first]; rfl, fun w => read_plain s w hs hc⟩
  obtain ⟨q, b, hq, hctl, hqz, hq0, C9⟩ := hR
  have D9 := hid (C9 w1)
  have D10 := fun w => hasControl_any s w hs0
  rw [hctl] at D10
  rw [hq]
  have hqz' : (0 : Int) < (q.size : Int) := by omega
  clear hq hctl C9 hs
  have hb := get_bt q
  go_wp2_with fail
  refine D9.out.mono ?_
  rintro e w2 ⟨rfl, hb2⟩
  go_wp2_with fail
  go_quiet ((go_at_call 10; exact Calls.quiet_of_same (D10 _)))
  go_wp2
  go_ret
  exact ⟨ret_bool (by simp), chain (chain hb1 hb2 (Nat.le_refl _)) (below_drewN (Below.refl _ _) _) (Nat.le_refl _)⟩
end Go.Proofs.Qxb6606097aDoor
