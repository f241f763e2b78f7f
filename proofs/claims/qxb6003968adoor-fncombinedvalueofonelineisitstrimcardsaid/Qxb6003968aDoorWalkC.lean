import Derived.Test.Qxb6003968aDoorWalkA
set_option linter.unusedSimpArgs false
set_option linter.unusedVariables false
namespace Go.Proofs.Qxb6003968aDoor
open Go.RowKit

/-- Is the byte a blank: a space or a tab? -/
def wsB (c : UInt8) : Bool := c == 32 || c == 9
theorem wsB_int (c : UInt8) : wsB c = (((c.toNat : Int) == 32) || ((c.toNat : Int) == 9)) := by
  unfold wsB
  have h1 : (c == 32) = ((c.toNat : Int) == 32) := by
    rw [Bool.eq_iff_iff]; simp [← UInt8.toNat_inj]; omega
  have h2 : (c == 9) = ((c.toNat : Int) == 9) := by
    rw [Bool.eq_iff_iff]; simp [← UInt8.toNat_inj]; omega
  rw [h1, h2]

set_option maxHeartbeats 400000 in
theorem bytes1_any (s : ByteArray) (w : World) (hs : s.size ≤ 9223372036854775807) :
    Calls Tryd.prog 10 #[.string s] w fun e w' => Says (s.size ≤ 1048576) e ∧ w' = w := by
  go_enter Tryd.func10, Tryd.ntmps10
  go_wp2
  · go_ret
    exact ⟨Says.no, rfl⟩
  · go_ret
    exact ⟨Says.yes (by omega), rfl⟩

set_option maxHeartbeats 400000 in
theorem isWS_any (c : UInt8) (w : World) :
    Calls Tryd.prog 11 #[.int .u8 (c.toNat : Int)] w fun e w' => e = .returned (.bool (wsB c)) ∧ w' = w := by
  have hw := wsB_int c
  generalize wsB c = B at hw ⊢
  by_cases h1 : ((c.toNat : Int) == 32) = true
  · rw [h1, Bool.true_or] at hw; subst hw
    go_enter Tryd.func11, Tryd.ntmps11
    go_wp2
    go_ret
    exact ⟨rfl, rfl⟩
  · have h1 : ((c.toNat : Int) == 32) = false := by simpa using h1
    rw [h1, Bool.false_or] at hw
    subst hw
    go_enter Tryd.func11, Tryd.ntmps11
    go_wp2
    go_ret
    exact ⟨rfl, rfl⟩

theorem take_snoc (s : ByteArray) (k : Nat) (h : k < s.size) : s.data.toList.take (k + 1) = s.data.toList.take k ++ [s[k]] := by
  rw [List.take_succ_eq_append_getElem (by simpa using h)]; rfl

/-- All bytes are blanks. -/
def allWS (s : ByteArray) : Bool := s.data.toList.all wsB

set_option maxHeartbeats 400000 in
theorem allWS_any (s : ByteArray) (w : World) (hs : s.size ≤ 9223372036854775807) :
    Calls Tryd.prog 12 #[.string s] w fun e w' => e = .returned (.bool (allWS s)) ∧ w' = w := by
  go_enter Tryd.func12, Tryd.ntmps12
  go_wp2
  go_loop [3] (fun i => ∃ k : Nat, k ≤ s.size ∧ i = .int .i64 k ∧ (s.data.toList.take k).all wsB = true) (fun i => s.size - (intOf i).toNat)
  case atStart => exact ⟨0, Nat.zero_le _, rfl, rfl⟩
  case round =>
    obtain ⟨k, hk, rfl, hall⟩ := hrel
    have HA : Hid ((s.data.toList.take k).all wsB = true) := hall
    clear hall
    by_cases hlt : k < s.size
    · cases hb : wsB s[k] with
      | true =>
        have c := fun w => isWS_any s[k] w
        rw [hb] at c
        have HS : Hid ((s.data.toList.take (k + 1)).all wsB = true) := by
          show _ = true
          rw [take_snoc s k hlt, List.all_append, HA.out]; simpa using hb
        clear hb
        go_wp2_with (go_at_call 11; refine (c _).mono ?_; rintro e w' ⟨rfl, rfl⟩)
        go_round
        case rel => exact ⟨k + 1, by omega, by go_num, HS.out⟩
        case measure => simp [intOf]; omega
      | false =>
        have c := fun w => isWS_any s[k] w
        rw [hb] at c
        have HS : Hid (allWS s = false) := by
          show _ = false
          unfold allWS
          rw [List.all_eq_false]
          exact ⟨s[k], Array.mem_toList_iff.2 (Array.getElem_mem (xs := s.data) hlt), by simp [hb]⟩
        clear hb
        go_wp2_with (go_at_call 11; refine (c _).mono ?_; rintro e w' ⟨rfl, rfl⟩)
        go_ret
        exact ⟨ret_bool HS.out.symm, rfl⟩
    · obtain rfl : k = s.size := by omega
      have HS : Hid (allWS s = true) := by
        have := HA.out
        rw [List.take_of_length_le (by simp)] at this
        exact this
      go_wp2
      go_ret
      exact ⟨ret_bool HS.out.symm, rfl⟩
end Go.Proofs.Qxb6003968aDoor
