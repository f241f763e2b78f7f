import Derived.Test.Qxb6614137aDoorProg
import Derived.WalkKit
import Derived.WalkSpells
import Derived.WalkLawsBesides
import Derived.PlainAid
import Derived.Laws.CopyOwn
set_option linter.unusedSimpArgs false
set_option linter.unusedVariables false
namespace Go.Proofs.Qxb6614137aDoor
open Go.RowKit Go.PlainAid

theorem hid {p : Prop} (h : p) : Hid p := h

/-- The slice at address ao holds the n strings S 0, S 1, .. -/
def StrsAt (w : World) (ao : Option Addr) (n : Nat) (S : Nat → ByteArray) : Prop :=
  n = 0 ∨ ∃ b off, ao = some ⟨b, off, none⟩ ∧ b < w.heap.size ∧ ∀ j, j < n → w.cell? ⟨b, off + j, none⟩ = some (.string (S j))

/-- The sum of the first n strings' lengths. -/
def totS (S : Nat → ByteArray) : Nat → Nat
  | 0 => 0
  | n + 1 => totS S n + (S n).size

theorem StrsAt.pos {w : World} {ao : Option Addr} {n k : Nat} {S : Nat → ByteArray} (h : StrsAt w ao n S) (hk : k < n) :
    ∃ b off, ao = some ⟨b, off, none⟩ ∧ b < w.heap.size ∧ ∀ j, j < n → w.cell? ⟨b, off + j, none⟩ = some (.string (S j)) := by
  rcases h with h | h
  · omega
  · exact h

/-- A call that answers a bool, and 'true' only where p. -/
def Says (p : Prop) (e : Ending) : Prop := ∃ r : Bool, e = .returned (.bool r) ∧ (r = true → p)
theorem Says.no {p : Prop} : Says p (.returned (.bool false)) := ⟨false, rfl, fun h => by cases h⟩
theorem Says.yes {p : Prop} (h : p) : Says p (.returned (.bool true)) := ⟨true, rfl, fun _ => h⟩
theorem Says.cases {p : Prop} {e : Ending} (h : Says p e) : (e = .returned (.bool true) ∧ p) ∨ e = .returned (.bool false) := by
  obtain ⟨r, rfl, hr⟩ := h
  cases r
  · exact Or.inr rfl
  · exact Or.inl ⟨rfl, hr rfl⟩

theorem ret_bool {a b : Bool} (h : a = b) : Ending.returned (.bool a) = .returned (.bool b) := by rw [h]

set_option maxHeartbeats 1000000 in
theorem bytes_any (ao : Option Addr) (n c : Nat) (A : Nat → ByteArray) (w : World) (hn : n ≤ 9223372036854775807)
    (hA : StrsAt w ao n A) (sA : ∀ j, j < n → (A j).size ≤ 9223372036854775807) :
    Calls Tryd.prog 4 #[.slice ao n c] w fun e w' => Says (n + totS A n ≤ 1048576) e ∧ w' = w := by
  have HA : Hid (StrsAt w ao n A) := hA
  have SA : Hid (∀ j, j < n → (A j).size ≤ 9223372036854775807) := sA
  clear hA sA
  go_enter Tryd.func4, Tryd.ntmps4
  go_wp2
  · go_ret
    exact ⟨Says.no, rfl⟩
  · go_loop [3, 4] (fun z i => ∃ k : Nat, k ≤ n ∧ i = .int .i64 k ∧ z = .int .i64 ((n + totS A k : Nat) : Int) ∧ n + totS A k ≤ 1048576) (fun _ i => n - (intOf i).toNat)
    case atStart => exact ⟨0, Nat.zero_le _, rfl, by go_num, by simp [totS]; omega⟩
    case round =>
      obtain ⟨k, hk, rfl, rfl, hz⟩ := hrel
      by_cases hlt : k < n
      · obtain ⟨b, off, rfl, hb, hc⟩ := HA.out.pos hlt
        have hck := hc k hlt
        have hsz := SA.out k hlt
        have ht : Hid (totS A (k + 1) = totS A k + (A k).size) := rfl
        clear hc
        go_wp2
        · go_ret
          exact ⟨Says.no, rfl⟩
        · go_ret
          exact ⟨Says.no, rfl⟩
        · go_round
          case rel => exact ⟨k + 1, by omega, by go_num, by rw [ht.out]; go_num, by rw [ht.out]; omega⟩
          case measure => simp [intOf]; omega
      · obtain rfl : k = n := by omega
        go_wp2
        go_ret
        exact ⟨Says.yes (by omega), rfl⟩

/-- A byte that RFC 4180 has written between quotes. -/
def spB (x : Int) : Bool := x == 44 || x == 34 || x == 13 || x == 10
/-- Does the string hold one? -/
def sp (s : ByteArray) : Bool := (List.range s.size).any fun i => spB (bt s i)
theorem sp_yes {s : ByteArray} {i : Nat} (hi : i < s.size) (h : spB (bt s i) = true) : sp s = true := by
  unfold sp
  rw [List.any_eq_true]
  exact ⟨i, by simpa using hi, h⟩
theorem sp_no {s : ByteArray} (h : ∀ i, i < s.size → spB (bt s i) = false) : sp s = false := by
  unfold sp
  rw [List.any_eq_false]
  intro i hi
  rw [h i (by simpa using hi)]
  simp
theorem no_sp {s : ByteArray} (h : sp s = false) (i : Nat) (hi : i < s.size) : bt s i ≠ 44 ∧ bt s i ≠ 34 ∧ bt s i ≠ 13 ∧ bt s i ≠ 10 := by
  unfold sp at h
  rw [List.any_eq_false] at h
  have := h i (by simpa using hi)
  simpa [spB, not_or, and_assoc] using this

set_option maxHeartbeats 1000000 in
theorem needs_any (s : ByteArray) (w : World) (hs : s.size ≤ 9223372036854775807) :
    Calls Tryd.prog 14 #[.string s] w fun e w' => e = .returned (.bool (sp s)) ∧ w' = w := by
  have hb := get_bt s
  generalize hR : sp s = R
  replace hR := hid hR
  go_enter Tryd.func14, Tryd.ntmps14
  go_wp2
  go_loop [3] (fun v => ∃ i : Nat, i ≤ s.size ∧ v = .int .i64 i ∧ Hid (∀ j, j < i → spB (bt s j) = false)) (fun v => s.size - (intOf v).toNat)
  case atStart => exact ⟨0, by omega, rfl, hid (fun j hj => by omega)⟩
  case round =>
    obtain ⟨i, hi, rfl, hno⟩ := hrel
    by_cases hlt : i < s.size
    · cases hx : spB (bt s i) with
      | true =>
        obtain rfl : R = true := by rw [← hR.out]; exact sp_yes hlt hx
        by_cases h1 : (bt s i == 44) = true
        · go_wp2
          go_ret
          exact ⟨rfl, rfl⟩
        have h1' : (bt s i == 44) = false := by simpa using h1
        by_cases h2 : (bt s i == 34) = true
        · go_wp2
          go_ret
          exact ⟨rfl, rfl⟩
        have h2' : (bt s i == 34) = false := by simpa using h2
        by_cases h3 : (bt s i == 13) = true
        · go_wp2
          go_ret
          exact ⟨rfl, rfl⟩
        have h3' : (bt s i == 13) = false := by simpa using h3
        have h4 : (bt s i == 10) = true := by
          unfold spB at hx
          rw [h1', h2', h3'] at hx
          simpa using hx
        clear hx h1 h2 h3
        go_wp2
        go_ret
        exact ⟨rfl, rfl⟩
      | false =>
        have hno' : Hid (∀ j, j < i + 1 → spB (bt s j) = false) := hid (fun j hj => by
          by_cases h : j = i
          · subst h; exact hx
          · exact hno.out j (by omega))
        have hx' : (bt s i == 44) = false ∧ (bt s i == 34) = false ∧ (bt s i == 13) = false ∧ (bt s i == 10) = false := by
          unfold spB at hx
          simpa [and_assoc] using hx
        obtain ⟨h1, h2, h3, h4⟩ := hx'
        clear hx
        go_wp2
        go_round
        case rel => exact ⟨i + 1, by omega, by go_num, hno'⟩
        case measure => simp [intOf]; omega
    · obtain rfl : i = s.size := by omega
      obtain rfl : R = false := by rw [← hR.out]; exact sp_no hno.out
      go_wp2
      go_ret
      exact ⟨rfl, rfl⟩

set_option maxHeartbeats 1000000 in
theorem has_any (s : ByteArray) (w : World) (hs : s.size ≤ 9223372036854775807) :
    Calls Tryd.prog 7 #[.string s] w fun e w' => e = .returned (.bool (sp s)) ∧ w' = w := by
  have hb := get_bt s
  generalize hR : sp s = R
  replace hR := hid hR
  go_enter Tryd.func7, Tryd.ntmps7
  go_wp2
  go_loop [3] (fun v => ∃ i : Nat, i ≤ s.size ∧ v = .int .i64 i ∧ Hid (∀ j, j < i → spB (bt s j) = false)) (fun v => s.size - (intOf v).toNat)
  case atStart => exact ⟨0, by omega, rfl, hid (fun j hj => by omega)⟩
  case round =>
    obtain ⟨i, hi, rfl, hno⟩ := hrel
    by_cases hlt : i < s.size
    · cases hx : spB (bt s i) with
      | true =>
        obtain rfl : R = true := by rw [← hR.out]; exact sp_yes hlt hx
        by_cases h1 : (bt s i == 44) = true
        · go_wp2
          go_ret
          exact ⟨rfl, rfl⟩
        have h1' : (bt s i == 44) = false := by simpa using h1
        by_cases h2 : (bt s i == 34) = true
        · go_wp2
          go_ret
          exact ⟨rfl, rfl⟩
        have h2' : (bt s i == 34) = false := by simpa using h2
        by_cases h3 : (bt s i == 13) = true
        · go_wp2
          go_ret
          exact ⟨rfl, rfl⟩
        have h3' : (bt s i == 13) = false := by simpa using h3
        have h4 : (bt s i == 10) = true := by
          unfold spB at hx
          rw [h1', h2', h3'] at hx
          simpa using hx
        clear hx h1 h2 h3
        go_wp2
        go_ret
        exact ⟨rfl, rfl⟩
      | false =>
        have hno' : Hid (∀ j, j < i + 1 → spB (bt s j) = false) := hid (fun j hj => by
          by_cases h : j = i
          · subst h; exact hx
          · exact hno.out j (by omega))
        have hx' : (bt s i == 44) = false ∧ (bt s i == 34) = false ∧ (bt s i == 13) = false ∧ (bt s i == 10) = false := by
          unfold spB at hx
          simpa [and_assoc] using hx
        obtain ⟨h1, h2, h3, h4⟩ := hx'
        clear hx
        go_wp2
        go_round
        case rel => exact ⟨i + 1, by omega, by go_num, hno'⟩
        case measure => simp [intOf]; omega
    · obtain rfl : i = s.size := by omega
      obtain rfl : R = false := by rw [← hR.out]; exact sp_no hno.out
      go_wp2
      go_ret
      exact ⟨rfl, rfl⟩
end Go.Proofs.Qxb6614137aDoor
