import Derived.Test.Qxb6606097aDoorWalkF
set_option linter.unusedSimpArgs false
set_option linter.unusedVariables false
namespace Go.Proofs.Qxb6606097aDoor
open Go.RowKit Go.PlainAid

theorem or_back (c : Int) (h0 : 0 ≤ c) (h1 : c < 32) : bits BinOp.or IntKind.u8 (c / 16 * 16) (c % 16) = c := by
  have : ∀ n : Fin 32, bits BinOp.or IntKind.u8 ((n.val : Int) / 16 * 16) ((n.val : Int) % 16) = (n.val : Int) := by decide
  have e : c = (c.toNat : Int) := by omega
  rw [e]
  exact this ⟨c.toNat, by omega⟩

set_option maxHeartbeats 4000000 in
set_option maxRecDepth 100000 in
theorem read_esc (s : ByteArray) (w : World) (hs : s.size ≤ 1048576) :
    Calls Tryd.prog 9 #[.string (esB s)] w fun e w' => e = .returned (.tuple #[.string s, .bool true]) ∧ Below w.heap.size w w' := by
  have hq : ∃ (q : ByteArray) (p : Nat → Nat), p 0 = 2 ∧ bt q 0 = 69 ∧ bt q 1 = 39 ∧ bt q (p s.size) = 39 ∧ p s.size + 1 = q.size ∧ (∀ k, p k + 1 ≤ q.size) ∧ q.size ≤ 8388608 ∧ esB s = q ∧
      ∀ k, k < s.size → ERound s q p k := by
    refine ⟨esB s, pe s, pe_zero s, esB_first s, esB_second s, esB_last s, pe_end s, pe_le s, ?_, rfl, pe_round s⟩
    have := Pl.flat_le Pl.esc Pl.esc_len s.data.toList
    rw [len_data] at this
    rw [esB_size]
    unfold Pl.escs
    omega
  obtain ⟨q, p, p0, q0, q1, ql, qe, qm, qz, hqs, hround⟩ := hq
  rw [hqs]
  clear hqs
  have HR := hid hround
  have HM := hid qm
  have HP0 := hid p0
  have HQE := hid qe
  have ql' : bt q (q.size - 1) = 39 := by rw [← qe, Nat.add_sub_cancel]; exact ql
  have h2 : 3 ≤ q.size := by have := qm 0; rw [p0] at this; omega
  have hsq : s.size + 3 ≤ q.size := by
    have : ∀ k, k ≤ s.size → k + 2 ≤ p k := by
      intro k
      induction k with
      | zero => intro _; omega
      | succ k ih =>
        intro hk
        have := ih (by omega)
        rcases hround k (by omega) with ⟨_, _, _, h⟩ | ⟨_, _, _, h⟩ | ⟨_, _, _, h⟩ | ⟨_, _, _, h⟩ | ⟨_, _, _, h⟩ | ⟨_, _, _, h⟩ | ⟨_, _, _, h⟩ | ⟨_, _, _, _, _, _, _, _, _, _, h⟩ | ⟨_, _, _, _, h⟩ <;> omega
    have := this s.size (Nat.le_refl _)
    omega
  clear hround qm p0 qe ql
  have hb := get_bt q
  obtain ⟨i, hi, hz0, hz1, hz2⟩ := info_parts Tryd.info5
  go_enter Tryd.func9, Tryd.ntmps9
  go_wp2_with (at_make; refine wpList_make_own _ rfl _ _ 27 rfl w.heap.size 5 i (.int .u8 0) 1 Tryd.underlying27 hi hz0 hz1 _ _ _ q.size rfl rfl rfl ?b2 ?b3 ?b4 ?_)
  case b2 => rw [hz2]; omega
  case b3 => unfold maxLen; omega
  case b4 => exact Nat.le_refl _
  intro w1 hown hgrow
  go_wp2
  go_loopw [8, 9] (fun v j wr => ∃ k : Nat, k ≤ s.size ∧ j = .int .i64 (p k : Int) ∧ v = .slice (some ⟨w.heap.size, 0, none⟩) k q.size ∧ wr.ownsRow w.heap.size 5 1 (.slice (some ⟨w.heap.size, 0, none⟩) k q.size) k (tk s k) ∧ Below w.heap.size w wr) (fun _ j _ => q.size - (intOf j).toNat)
  case atStart => exact ⟨0, Nat.zero_le _, by rw [HP0.out]; rfl, rfl, hown, (Below.refl _ _).grown hgrow (Nat.le_refl _) (fun k h => by cases h)⟩
  case round =>
    clear hown hgrow q0 q1 ql' h2
    obtain ⟨k, hk, rfl, rfl, hrow, hbel⟩ := hrel
    have hB : w.heap.size ≤ wr.heap.size := hbel.size
    by_cases hlt : k < s.size
    · have hm1 := HM.out (k + 1)
      have hr := HR.out k hlt
      unfold ERound at hr
      rcases hr with hr | hr | hr | hr | hr | hr | hr | hr | hr
      · obtain ⟨e1, e2, e3, e4⟩ := hr
        rw [e4] at hm1
        have E4 := hid e4
        have E1 := hid e1
        clear e4 e1
        generalize hpk : p k = P at *
        go_wp2_with (at_builtin; refine wpList_append_fits _ rfl (.tmp 126) (.tmp 128) 27 rfl w.heap.size 5 i 1 Tryd.underlying27 hi hz1 w.heap.size k q.size (tk s k) rfl (hrow.alloc _) ⟨wr.heap.size, 0, none⟩ 1 1 [.int .u8 92] rfl rfl (cell_one_new _ _ _) (fun u hu => by simp at hu; subst hu; rfl) (by omega) ?_)
        intro w4 hown4 hgrow4
        rw [← E1.out, tk_succ s k hlt] at hown4
        go_wp2
        go_roundw
        case rel => exact ⟨k + 1, by omega, by rw [E4.out]; go_num, rfl, hown4, (hbel.alloc hB _).grown hgrow4 (by simp; omega) (fun k h => by cases h; exact Nat.le_refl _)⟩
        case measure => simp [intOf]; omega
      · obtain ⟨e1, e2, e3, e4⟩ := hr
        rw [e4] at hm1
        have E4 := hid e4
        have E1 := hid e1
        clear e4 e1
        generalize hpk : p k = P at *
        go_wp2_with (at_builtin; refine wpList_append_fits _ rfl (.tmp 126) (.tmp 128) 27 rfl w.heap.size 5 i 1 Tryd.underlying27 hi hz1 w.heap.size k q.size (tk s k) rfl (hrow.alloc _) ⟨wr.heap.size, 0, none⟩ 1 1 [.int .u8 39] rfl rfl (cell_one_new _ _ _) (fun u hu => by simp at hu; subst hu; rfl) (by omega) ?_)
        intro w4 hown4 hgrow4
        rw [← E1.out, tk_succ s k hlt] at hown4
        go_wp2
        go_roundw
        case rel => exact ⟨k + 1, by omega, by rw [E4.out]; go_num, rfl, hown4, (hbel.alloc hB _).grown hgrow4 (by simp; omega) (fun k h => by cases h; exact Nat.le_refl _)⟩
        case measure => simp [intOf]; omega
      · obtain ⟨e1, e2, e3, e4⟩ := hr
        rw [e4] at hm1
        have E4 := hid e4
        have E1 := hid e1
        clear e4 e1
        generalize hpk : p k = P at *
        go_wp2_with (at_builtin; refine wpList_append_fits _ rfl (.tmp 134) (.tmp 135) 27 rfl w.heap.size 5 i 1 Tryd.underlying27 hi hz1 w.heap.size k q.size (tk s k) rfl (hrow.alloc _) ⟨wr.heap.size, 0, none⟩ 1 1 [.int .u8 10] rfl rfl (cell_one_new _ _ _) (fun u hu => by simp at hu; subst hu; rfl) (by omega) ?_)
        intro w4 hown4 hgrow4
        rw [← E1.out, tk_succ s k hlt] at hown4
        go_wp2
        go_roundw
        case rel => exact ⟨k + 1, by omega, by rw [E4.out]; go_num, rfl, hown4, (hbel.alloc hB _).grown hgrow4 (by simp; omega) (fun k h => by cases h; exact Nat.le_refl _)⟩
        case measure => simp [intOf]; omega
      · obtain ⟨e1, e2, e3, e4⟩ := hr
        rw [e4] at hm1
        have E4 := hid e4
        have E1 := hid e1
        clear e4 e1
        generalize hpk : p k = P at *
        go_wp2_with (at_builtin; refine wpList_append_fits _ rfl (.tmp 141) (.tmp 142) 27 rfl w.heap.size 5 i 1 Tryd.underlying27 hi hz1 w.heap.size k q.size (tk s k) rfl (hrow.alloc _) ⟨wr.heap.size, 0, none⟩ 1 1 [.int .u8 9] rfl rfl (cell_one_new _ _ _) (fun u hu => by simp at hu; subst hu; rfl) (by omega) ?_)
        intro w4 hown4 hgrow4
        rw [← E1.out, tk_succ s k hlt] at hown4
        go_wp2
        go_roundw
        case rel => exact ⟨k + 1, by omega, by rw [E4.out]; go_num, rfl, hown4, (hbel.alloc hB _).grown hgrow4 (by simp; omega) (fun k h => by cases h; exact Nat.le_refl _)⟩
        case measure => simp [intOf]; omega
      · obtain ⟨e1, e2, e3, e4⟩ := hr
        rw [e4] at hm1
        have E4 := hid e4
        have E1 := hid e1
        clear e4 e1
        generalize hpk : p k = P at *
        go_wp2_with (at_builtin; refine wpList_append_fits _ rfl (.tmp 148) (.tmp 149) 27 rfl w.heap.size 5 i 1 Tryd.underlying27 hi hz1 w.heap.size k q.size (tk s k) rfl (hrow.alloc _) ⟨wr.heap.size, 0, none⟩ 1 1 [.int .u8 13] rfl rfl (cell_one_new _ _ _) (fun u hu => by simp at hu; subst hu; rfl) (by omega) ?_)
        intro w4 hown4 hgrow4
        rw [← E1.out, tk_succ s k hlt] at hown4
        go_wp2
        go_roundw
        case rel => exact ⟨k + 1, by omega, by rw [E4.out]; go_num, rfl, hown4, (hbel.alloc hB _).grown hgrow4 (by simp; omega) (fun k h => by cases h; exact Nat.le_refl _)⟩
        case measure => simp [intOf]; omega
      · obtain ⟨e1, e2, e3, e4⟩ := hr
        rw [e4] at hm1
        have E4 := hid e4
        have E1 := hid e1
        clear e4 e1
        generalize hpk : p k = P at *
        go_wp2_with (at_builtin; refine wpList_append_fits _ rfl (.tmp 155) (.tmp 156) 27 rfl w.heap.size 5 i 1 Tryd.underlying27 hi hz1 w.heap.size k q.size (tk s k) rfl (hrow.alloc _) ⟨wr.heap.size, 0, none⟩ 1 1 [.int .u8 8] rfl rfl (cell_one_new _ _ _) (fun u hu => by simp at hu; subst hu; rfl) (by omega) ?_)
        intro w4 hown4 hgrow4
        rw [← E1.out, tk_succ s k hlt] at hown4
        go_wp2
        go_roundw
        case rel => exact ⟨k + 1, by omega, by rw [E4.out]; go_num, rfl, hown4, (hbel.alloc hB _).grown hgrow4 (by simp; omega) (fun k h => by cases h; exact Nat.le_refl _)⟩
        case measure => simp [intOf]; omega
      · obtain ⟨e1, e2, e3, e4⟩ := hr
        rw [e4] at hm1
        have E4 := hid e4
        have E1 := hid e1
        clear e4 e1
        generalize hpk : p k = P at *
        go_wp2_with (at_builtin; refine wpList_append_fits _ rfl (.tmp 162) (.tmp 163) 27 rfl w.heap.size 5 i 1 Tryd.underlying27 hi hz1 w.heap.size k q.size (tk s k) rfl (hrow.alloc _) ⟨wr.heap.size, 0, none⟩ 1 1 [.int .u8 12] rfl rfl (cell_one_new _ _ _) (fun u hu => by simp at hu; subst hu; rfl) (by omega) ?_)
        intro w4 hown4 hgrow4
        rw [← E1.out, tk_succ s k hlt] at hown4
        go_wp2
        go_roundw
        case rel => exact ⟨k + 1, by omega, by rw [E4.out]; go_num, rfl, hown4, (hbel.alloc hB _).grown hgrow4 (by simp; omega) (fun k h => by cases h; exact Nat.le_refl _)⟩
        case measure => simp [intOf]; omega
      · obtain ⟨h32, e10, e9, e13, e8, e12, e2, e3, c1, c2, e4⟩ := hr
        rw [e4] at hm1
        have E4 := hid e4
        have C1 := hid c1
        have C2 := hid c2
        have h0 := bt_nonneg s k
        clear e4 c1 c2
        have t10 : (bt s k == 10) = false := by simpa using e10
        have t9 : (bt s k == 9) = false := by simpa using e9
        have t13 : (bt s k == 13) = false := by simpa using e13
        have t8 : (bt s k == 8) = false := by simpa using e8
        have t12 : (bt s k == 12) = false := by simpa using e12
        have hor := or_back (bt s k) h0 h32
        clear e10 e9 e13 e8 e12
        generalize hpk : p k = P at *
        go_wp2_with fail
        refine (C1.out _).mono ?_
        rintro e w' ⟨rfl, hw⟩
        replace hw := hw.symm; subst hw
        go_wp2_with fail
        refine (C2.out _).mono ?_
        rintro e w' ⟨rfl, hw⟩
        replace hw := hw.symm; subst hw
        go_wp2_with (at_builtin; refine wpList_append_fits _ rfl (.tmp 222) (.tmp 224) 27 rfl w.heap.size 5 i 1 Tryd.underlying27 hi hz1 w.heap.size k q.size (tk s k) rfl (hrow.alloc _) ⟨wr.heap.size, 0, none⟩ 1 1 [.int .u8 (bt s k)] rfl rfl (cell_one_new _ _ _) (fun u hu => by simp at hu; subst hu; rfl) (by omega) ?_)
        intro w4 hown4 hgrow4
        rw [tk_succ s k hlt] at hown4
        go_wp2
        go_roundw
        case rel => exact ⟨k + 1, by omega, by rw [E4.out]; go_num, rfl, hown4, (hbel.alloc hB _).grown hgrow4 (by simp; omega) (fun k h => by cases h; exact Nat.le_refl _)⟩
        case measure => simp [intOf]; omega
      · obtain ⟨h32, e39, e92, e2, e4⟩ := hr
        rw [e4] at hm1
        have E4 := hid e4
        have h255 := bt_le s k
        have t39 : (bt s k == 39) = false := by simpa using e39
        have t92 : (bt s k != 92) = true := by simpa using e92
        clear e4 e39 e92
        generalize hpk : p k = P at *
        go_wp2_with (at_builtin; refine wpList_append_fits _ rfl (.tmp 107) (.tmp 109) 27 rfl w.heap.size 5 i 1 Tryd.underlying27 hi hz1 w.heap.size k q.size (tk s k) rfl (hrow.alloc _) ⟨wr.heap.size, 0, none⟩ 1 1 [.int .u8 (bt s k)] rfl rfl (cell_one_new _ _ _) (fun u hu => by simp at hu; subst hu; rfl) (by omega) ?_)
        intro w4 hown4 hgrow4
        rw [tk_succ s k hlt] at hown4
        go_wp2
        go_roundw
        case rel => exact ⟨k + 1, by omega, by rw [E4.out]; go_num, rfl, hown4, (hbel.alloc hB _).grown hgrow4 (by simp; omega) (fun k h => by cases h; exact Nat.le_refl _)⟩
        case measure => simp [intOf]; omega
    · obtain rfl : k = s.size := by omega
      have hP := HQE.out
      generalize hpk : p s.size = P at *
      have hconv := tk_conv s hrow
      have hP' : P + 1 ≤ q.size := by omega
      have hP'' : q.size ≤ P + 1 := by omega
      clear hP
      go_wp2
      go_ret2
      exact ⟨rfl, hbel⟩
end Go.Proofs.Qxb6606097aDoor
