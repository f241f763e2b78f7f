import Derived.Test.Qxb6614137aDoorWalkJ
set_option linter.unusedSimpArgs false
set_option linter.unusedVariables false
namespace Go.Proofs.Qxb6614137aDoor
open Go.RowKit Go.PlainAid

theorem StrsAt.below {w wr : World} {ao : Option Addr} {n : Nat} {S : Nat → ByteArray} (h : StrsAt w ao n S) (hb : Below w.heap.size w wr) : StrsAt wr ao n S := by
  rcases h with h | ⟨b, off, rfl, hlt, hc⟩
  · exact Or.inl h
  · exact Or.inr ⟨b, off, rfl, Nat.lt_of_lt_of_le hlt hb.size, fun j hj => (hb.cell (p := ⟨b, off + j, none⟩) hlt).trans (hc j hj)⟩

theorem fresh_ws (w w2 : World) (M : Array Value) (hM : M.size = 4096) (hw : w2 = (newBW (w.alloc (.cells #[.slice none 0 0, .int .i64 0, .int .i8 0] 33)) M w.heap.size).alloc (.cells #[.pointer (some ⟨(w.alloc (.cells #[.slice none 0 0, .int .i64 0, .int .i8 0] 33)).heap.size + 1, 0, none⟩)] 40)) :
    WS w2 w.heap.size w.heap.size (w.heap.size + 2) (w.heap.size + 1) (w.heap.size + 3) [] ∧ Below w.heap.size w w2 := by
  rw [alloc_size] at hw
  subst hw
  refine ⟨⟨[], [], BWn.fresh w M hM, rfl⟩, ?_⟩
  unfold newBW
  refine Below.alloc (Below.alloc (Below.alloc (Below.alloc (Below.refl _ _) (Nat.le_refl _) _) ?_ _) ?_ _) ?_ _ <;> simp only [alloc_size] <;> omega

set_option maxHeartbeats 4000000 in
set_option maxRecDepth 100000 in
theorem row_any (ao : Option Addr) (n c : Nat) (S : Nat → ByteArray) (m : Int) (w : World) (hn : n ≤ 65536) (hS : ∀ k, k < n → (S k).size ≤ 1048576) (hW : ∀ k, k ≤ n → (Wr S k).length ≤ 16777215)
    (hA : StrsAt w ao n S) (h1 : 1 < w.heap.size) (hm : w.cell? ⟨1, 0, none⟩ = some (.int .i64 m)) :
    Calls Tryd.prog 5 #[.slice ao n c] w fun e w' => ∃ O : ByteArray, e = .returned (.string O) ∧ O.data.toList = Wr S n ++ [10] ∧ Below w.heap.size w w' := by
  have HS := hid hS
  have HW := hid hW
  have HA := hid hA
  have HM := hid hm
  clear hS hW hA hm
  go_enter Tryd.func5, Tryd.ntmps5
  go_wp2_with (go_at_call 8; refine (newCsv_any w.heap.size _).mono ?_)
  rintro e w2 ⟨rfl, M, hM, hw2⟩
  obtain ⟨h2, hb2⟩ := fresh_ws w w2 M hM hw2
  rw [alloc_size]
  have H2 := hid h2
  have HL2 := hid hb2
  clear h2 hb2 hM hw2
  have hsz2 : Hid (w.heap.size ≤ w2.heap.size) := hid HL2.out.size
  go_wp2_with (go_at_call 9; refine (write_row w.heap.size w.heap.size (w.heap.size + 2) (w.heap.size + 1) (w.heap.size + 3) ao n c S m _ ?_ hn ?_ ?_ ?_ ?_ ?_).mono ?_)
  · exact H2.out
  · exact HS.out
  · exact fun k hk => Nat.le_trans (HW.out k hk) (by decide)
  · exact hsz2.out
  · exact fun wr hb => HA.out.below (HL2.out.trans hb)
  · exact fun wr hb => ((HL2.out.trans hb).cell (p := ⟨1, 0, none⟩) h1).trans HM.out
  rintro e w3 ⟨rfl, h3, hb3⟩
  have kc3 := h3.cell
  obtain ⟨T, U, h3, hTU⟩ := h3
  have H3 := hid h3
  have HTU := hid hTU
  have HL3 := hid (HL2.out.trans hb3)
  have HLM : Hid (T.length + U.length ≤ 140737488355328) := hid (by
    rw [← List.length_append, hTU, List.length_append, List.length_singleton]
    have := HW.out n (Nat.le_refl _)
    omega)
  clear h3 hTU hb3
  go_wp2_with (go_at_call 10; refine (flush_any w.heap.size w.heap.size (w.heap.size + 2) (w.heap.size + 1) (w.heap.size + 3) T U _ ?_ ?_).mono ?_)
  · exact H3.out
  · exact HLM.out
  rintro e w4 ⟨rfl, h4, hb4⟩
  rw [HTU.out] at h4
  obtain ⟨v, row, hbf, -, -, -, -⟩ := h4
  have HI := hid hbf.1
  have HL4 := hid (HL3.out.trans hb4)
  clear hbf hb4
  go_wp2_with (go_at_call 11; refine (Tryd.Buffer_String w.heap.size w.heap.size (Wr S n ++ [10]) _ ?_).mono ?_)
  · exact HI.out
  rintro e w5 ⟨rfl, q, hw5⟩
  have HL5 : Hid (Below w.heap.size w w5) := hid (by rw [hw5]; exact HL4.out.trans ⟨rfl, rfl, rfl, Nat.le_refl _, fun _ _ => rfl⟩)
  clear hw5
  go_wp2
  go_ret
  exact ⟨_, rfl, by simp, HL5.out⟩
end Go.Proofs.Qxb6614137aDoor
