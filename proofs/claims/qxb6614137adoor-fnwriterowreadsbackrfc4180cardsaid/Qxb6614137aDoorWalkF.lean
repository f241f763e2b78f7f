import Derived.Test.Qxb6614137aDoorWalkE
set_option linter.unusedSimpArgs false
set_option linter.unusedVariables false
namespace Go.Proofs.Qxb6614137aDoor
open Go.RowKit Go.PlainAid

theorem method_write (a : Addr) (w : World) : (method 210 36 (.pointer (some a)) "Write").run Tryd.prog w = .ok (58, .pointer (some a)) w := by kernel_rfl
theorem method_writeString (a : Addr) (w : World) : (method 210 36 (.pointer (some a)) "WriteString").run Tryd.prog w = .ok (59, .pointer (some a)) w := by kernel_rfl

set_option maxHeartbeats 4000000 in
set_option maxRecDepth 100000 in
theorem flush_any (B bb kb rb cb : Nat) (T U : List UInt8) (w : World) (h : BWn w B bb kb rb cb T U U.length) (hlim : T.length + U.length ≤ 140737488355328) :
    Calls Tryd.prog 10 #[.pointer (some ⟨kb, 0, none⟩)] w fun e w' => e = .returned .nilIface ∧ BWn w' B bb kb rb cb (T ++ U) [] 0 ∧ Below B w w' := by
  obtain ⟨k0, k1, k2, k3, k4, kf⟩ := h.cells
  have hle := h.ule
  have HB := hid h
  clear h
  by_cases hU : U.length = 0
  · have hn : U = [] := List.eq_nil_of_length_eq_zero hU
    subst hn
    have k2' : w.cell? ⟨kb, 2, none⟩ = some (.int .i64 0) := k2
    clear k2 hU
    go_enter Tryd.func10, Tryd.ntmps10
    go_wp2
    go_ret
    exact ⟨rfl, by simpa using HB.out, Below.refl _ _⟩
  · have hU1 : 1 ≤ U.length := by omega
    have hm := method_write
    have HL0 : Hid (Below B w w.drew) := hid ⟨rfl, rfl, rfl, Nat.le_refl _, fun _ _ => rfl⟩
    go_enter Tryd.func10, Tryd.ntmps10
    go_wp2
    go_region_with (
      go_at_call 58
      refine (bw_write B bb kb rb cb T U U.length _ ?_ hU1 hlim).mono ?_
      exact HB.out.heap rfl
      rintro e w2 ⟨rfl, h2, hb2⟩
      obtain ⟨j0, j1, j2, j3, j4, jf⟩ := h2.cells
      have HB2 := hid h2
      have HL2 := hid hb2
      clear h2 hb2)
    all_goals (
      go_wp2
      go_ret
      exact ⟨rfl, (HB2.out.nil).setN 0, (HL0.out.trans HL2.out).trans (HB2.out.below_setN 2 _)⟩)
end Go.Proofs.Qxb6614137aDoor
