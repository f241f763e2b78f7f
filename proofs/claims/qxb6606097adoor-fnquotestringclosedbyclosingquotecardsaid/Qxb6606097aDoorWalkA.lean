import Derived.Test.Qxb6606097aDoorProg
import Derived.Test.Qxb6606097aDoorBuf
import Derived.Test.Qxb6606097aDoorPlain
import Derived.Shelf.GgClosure.StringsIndexFuncTop
set_option linter.unusedSimpArgs false
set_option linter.unusedVariables false
namespace Go.Proofs.Qxb6606097aDoor
open Go.RowKit Go.PlainAid

/-- A call that answers a bool, and 'true' only where p. -/
def Says (p : Prop) (e : Ending) : Prop := ∃ r : Bool, e = .returned (.bool r) ∧ (r = true → p)
theorem Says.no {p : Prop} : Says p (.returned (.bool false)) := ⟨false, rfl, fun h => by cases h⟩
theorem Says.yes {p : Prop} (h : p) : Says p (.returned (.bool true)) := ⟨true, rfl, fun _ => h⟩
theorem Says.cases {p : Prop} {e : Ending} (h : Says p e) : (e = .returned (.bool true) ∧ p) ∨ e = .returned (.bool false) := by
  obtain ⟨r, rfl, hr⟩ := h
  cases r
  · exact Or.inr rfl
  · exact Or.inl ⟨rfl, hr rfl⟩
theorem ret_bool {a b : Bool} (h : a = b) : Ending.returned (.bool a) = .returned (.bool b) := by rw [h]

set_option maxHeartbeats 400000 in
theorem bytes7_any (s : ByteArray) (w : World) (hs : s.size ≤ 9223372036854775807) :
    Calls Tryd.prog 7 #[.string s] w fun e w' => Says (s.size ≤ 1048576) e ∧ w' = w := by
  go_enter Tryd.func7, Tryd.ntmps7
  go_wp2
  · go_ret
    exact ⟨Says.no, rfl⟩
  · go_ret
    exact ⟨Says.yes (by omega), rfl⟩

theorem bt_ctl (s : ByteArray) (k : Nat) (h : k < s.size) : Pl.ctl (s[k]'h) = decide (bt s k < 32) := by
  rw [← get_bt s k h]
  unfold Pl.ctl
  congr 1
  exact propext ⟨fun h => by omega, fun h => by omega⟩

theorem take_snoc (s : ByteArray) (k : Nat) (h : k < s.size) : s.data.toList.take (k + 1) = s.data.toList.take k ++ [s[k]] := by
  rw [List.take_succ_eq_append_getElem (by simpa using h)]; rfl

set_option maxHeartbeats 400000 in
theorem hasControl_any (s : ByteArray) (w : World) (hs : s.size ≤ 9223372036854775807) :
    Calls Tryd.prog 10 #[.string s] w fun e w' => e = .returned (.bool (Pl.hasCtl s.data.toList)) ∧ w' = w := by
  have hb := get_bt s
  go_enter Tryd.func10, Tryd.ntmps10
  go_wp2
  go_loop [3] (fun i => ∃ k : Nat, k ≤ s.size ∧ i = .int .i64 k ∧ Pl.hasCtl (s.data.toList.take k) = false) (fun i => s.size - (intOf i).toNat)
  case atStart => exact ⟨0, Nat.zero_le _, rfl, rfl⟩
  case round =>
    obtain ⟨k, hk, rfl, hall⟩ := hrel
    have HA := hid hall
    clear hall
    by_cases hlt : k < s.size
    · have hc := bt_ctl s k hlt
      by_cases hlow : bt s k < 32
      · have HS : Hid (Pl.hasCtl s.data.toList = true) := by
          show _ = true
          unfold Pl.hasCtl
          rw [List.any_eq_true]
          exact ⟨s[k], Array.mem_toList_iff.2 (Array.getElem_mem (xs := s.data) hlt), by rw [hc]; simpa using hlow⟩
        clear hc
        go_wp2
        go_ret
        exact ⟨ret_bool HS.out.symm, rfl⟩
      · have HS : Hid (Pl.hasCtl (s.data.toList.take (k + 1)) = false) := by
          show _ = false
          have := HA.out
          unfold Pl.hasCtl at this ⊢
          rw [take_snoc s k hlt, List.any_append, this]
          simpa [hc] using hlow
        clear hc
        go_wp2
        go_round
        case rel => exact ⟨k + 1, by omega, by go_num, HS.out⟩
        case measure => simp [intOf]; omega
    · obtain rfl : k = s.size := by omega
      have HS : Hid (Pl.hasCtl s.data.toList = false) := by
        have := HA.out
        rw [List.take_of_length_le (by simp)] at this
        exact this
      go_wp2
      go_ret
      exact ⟨ret_bool HS.out.symm, rfl⟩

/-- The function literal of breaksLine. -/
theorem low_at (w : World) : PredAt Tryd.prog 33 #[] encR Pl.low w := fun W r _ => by
  unfold FnGives
  by_cases h1 : r < 32
  all_goals
    have z1 : (r : Int) < 32 ↔ r < 32 := by omega
    go_enter Tryd.func33, Tryd.ntmps33
    go_wp2
    all_goals first | (exfalso; omega) | (go_ret; exact ⟨by simp [h1, Pl.low], 0, rfl⟩)
end Go.Proofs.Qxb6606097aDoor
