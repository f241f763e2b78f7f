import Derived.Test.Qxb6606097aDoorWalkD
set_option linter.unusedSimpArgs false
set_option linter.unusedVariables false
namespace Go.Proofs.Qxb6606097aDoor
open Go.RowKit Go.PlainAid

/-- The first k bytes, as cells. -/
def tk (s : ByteArray) (k : Nat) : List Value := bc (s.data.toList.take k)
theorem tk_succ (s : ByteArray) (k : Nat) (h : k < s.size) : tk s k ++ [.int .u8 (bt s k)] = tk s (k + 1) := by
  unfold tk
  rw [take_snoc s k h, bc_append, ← get_bt s k h]
  rfl
theorem tk_zero (s : ByteArray) : tk s 0 = [] := rfl
theorem tk_conv {w : World} {B g c : Nat} (s : ByteArray) (h : w.ownsRow B 5 1 (.slice (some ⟨g, 0, none⟩) s.size c) s.size (tk s s.size)) :
    (convert 27 9 (.slice (some ⟨g, 0, none⟩) s.size c)).run Tryd.prog w = .ok (.string s) w := by
  have e : s.data.toList.take s.size = s.data.toList := List.take_of_length_le (by rw [len_data]; exact Nat.le_refl _)
  unfold tk at h
  rw [e] at h
  have := run_convert_bytes_back (P := Tryd.prog) w 27 9 5 ⟨g, 0, none⟩ c s.data.toList Tryd.underlying27 Tryd.underlying5 Tryd.underlying9 (fun j hj => by
    rw [Addr.add_lit, Nat.zero_add, h.cellAt j (by rw [len_data] at hj; omega), bc_get _ _ hj])
  rw [len_data] at this
  exact this

set_option maxHeartbeats 2000000 in
set_option maxRecDepth 100000 in
theorem read_plain (s : ByteArray) (w : World) (hs : s.size ≤ 1048576) (hctl : Pl.hasCtl s.data.toList = false) :
    Calls Tryd.prog 9 #[.string (plB s)] w fun e w' => e = .returned (.tuple #[.string s, .bool true]) ∧ Below w.heap.size w w' := by
  have hq : ∃ (q : ByteArray) (p : Nat → Nat), p 0 = 1 ∧ bt q 0 = 39 ∧ bt q (p s.size) = 39 ∧ p s.size + 1 = q.size ∧ (∀ k, p k + 1 ≤ q.size) ∧ q.size ≤ 8388608 ∧ plB s = q ∧
      ∀ k, k < s.size → 32 ≤ bt s k ∧ ((bt s k = 39 ∧ bt q (p k) = 39 ∧ bt q (p k + 1) = 39 ∧ p (k + 1) = p k + 2) ∨ (bt s k ≠ 39 ∧ bt q (p k) = bt s k ∧ p (k + 1) = p k + 1)) := by
    refine ⟨plB s, pp s, pp_zero s, plB_first s, plB_last s, pp_end s, pp_le s, ?_, rfl, pp_round s hctl⟩
    have := Pl.flat_le Pl.dq Pl.dq_len s.data.toList
    rw [len_data] at this
    rw [plB_size]
    unfold Pl.dbl
    omega
  obtain ⟨q, p, p0, q0, ql, qe, qm, qz, hqs, hround⟩ := hq
  rw [hqs]
  clear hqs hctl
  have HR := hid hround
  have HM := hid qm
  have HP0 := hid p0
  have HQE := hid qe
  have ql' : bt q (q.size - 1) = 39 := by rw [← qe, Nat.add_sub_cancel]; exact ql
  have h2 : 2 ≤ q.size := by have := qm 1; have := qm 0; rw [p0] at this; omega
  have hsq : s.size + 2 ≤ q.size := by
    have : ∀ k, k ≤ s.size → k + 1 ≤ p k := by
      intro k
      induction k with
      | zero => intro _; omega
      | succ k ih =>
        intro hk
        have := ih (by omega)
        rcases (hround k (by omega)).2 with ⟨_, _, _, h⟩ | ⟨_, _, h⟩ <;> omega
    have := this s.size (Nat.le_refl _)
    omega
  clear hround qm p0 qe ql
  have hb := get_bt q
  obtain ⟨i, hi, hz0, hz1, hz2⟩ := info_parts Tryd.info5
  go_enter Tryd.func9, Tryd.ntmps9
  go_wp2_with (at_make; refine wpList_make_own _ rfl _ _ 27 rfl w.heap.size 5 i (.int .u8 0) 1 Tryd.underlying27 hi hz0 hz1 _ _ _ q.size rfl rfl rfl ?b2 ?b3 ?b4 ?_)
  case b2 => rw [hz2]; omega
  case b3 => unfold maxLen; omega
  case b4 => exact Nat.le_refl _
  intro w1 hown hgrow
  go_wp2
  go_loopw [5, 6] (fun v j wr => ∃ k : Nat, k ≤ s.size ∧ j = .int .i64 (p k : Int) ∧ v = .slice (some ⟨w.heap.size, 0, none⟩) k q.size ∧ wr.ownsRow w.heap.size 5 1 (.slice (some ⟨w.heap.size, 0, none⟩) k q.size) k (tk s k) ∧ Below w.heap.size w wr) (fun _ j _ => q.size - (intOf j).toNat)
  case atStart => exact ⟨0, Nat.zero_le _, by rw [HP0.out]; rfl, rfl, hown, (Below.refl _ _).grown hgrow (Nat.le_refl _) (fun k h => by cases h)⟩
  case round =>
    clear hown hgrow
    obtain ⟨k, hk, rfl, rfl, hrow, hbel⟩ := hrel
    have hB : w.heap.size ≤ wr.heap.size := hbel.size
    by_cases hlt : k < s.size
    · have hm1 := HM.out (k + 1)
      obtain ⟨h32, ⟨e1, e2, e3, e4⟩ | ⟨e1, e2, e4⟩⟩ := HR.out k hlt
      · rw [e4] at hm1
        have E4 := hid e4
        have E1 := hid e1
        clear e4 e1
        generalize hpk : p k = P at *
        go_wp2_with (at_builtin; refine wpList_append_fits _ rfl (.tmp 58) (.tmp 59) 27 rfl w.heap.size 5 i 1 Tryd.underlying27 hi hz1 w.heap.size k q.size (tk s k) rfl (hrow.alloc _) ⟨wr.heap.size, 0, none⟩ 1 1 [.int .u8 39] rfl rfl (cell_one_new _ _ _) (fun u hu => by simp at hu; subst hu; rfl) (by omega) ?_)
        intro w4 hown4 hgrow4
        rw [← E1.out, tk_succ s k hlt] at hown4
        go_wp2
        go_roundw
        case rel => exact ⟨k + 1, by omega, by rw [E4.out]; go_num, rfl, hown4, (hbel.alloc hB _).grown hgrow4 (by simp; omega) (fun k h => by cases h; exact Nat.le_refl _)⟩
        case measure => simp [intOf]; omega
      · rw [e4] at hm1
        have E4 := hid e4
        clear e4
        generalize hpk : p k = P at *
        go_wp2_with (at_builtin; refine wpList_append_fits _ rfl (.tmp 63) (.tmp 65) 27 rfl w.heap.size 5 i 1 Tryd.underlying27 hi hz1 w.heap.size k q.size (tk s k) rfl (hrow.alloc _) ⟨wr.heap.size, 0, none⟩ 1 1 [.int .u8 (bt s k)] rfl rfl (cell_one_new _ _ _) (fun u hu => by simp at hu; subst hu; rfl) (by omega) ?_)
        intro w4 hown4 hgrow4
        rw [tk_succ s k hlt] at hown4
        go_wp2
        go_roundw
        case rel => exact ⟨k + 1, by omega, by rw [E4.out]; go_num, rfl, hown4, (hbel.alloc hB _).grown hgrow4 (by simp; omega) (fun k h => by cases h; exact Nat.le_refl _)⟩
        case measure => simp [intOf]; omega
    · obtain rfl : k = s.size := by omega
      have hP := HQE.out
      generalize hpk : p s.size = P at *
      have hconv := tk_conv s hrow
      have hP' : P + 1 ≤ q.size := by omega
      have hP'' : q.size ≤ P + 1 := by omega
      clear hP
      go_wp2
      go_ret2
      exact ⟨rfl, hbel⟩
end Go.Proofs.Qxb6606097aDoor
