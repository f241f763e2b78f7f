import Derived.Test.Qxb6003968aDoorProg
import Derived.WalkKit
import Derived.WalkSpells
import Derived.WalkLawsBesides
set_option linter.unusedSimpArgs false
set_option linter.unusedVariables false
namespace Go.Proofs.Qxb6003968aDoor
open Go.RowKit

/-- The slice at address ao holds the n strings S 0, S 1, .. -/
def StrsAt (w : World) (ao : Option Addr) (n : Nat) (S : Nat → ByteArray) : Prop :=
  n = 0 ∨ ∃ b off, ao = some ⟨b, off, none⟩ ∧ b < w.heap.size ∧ ∀ j, j < n → w.cell? ⟨b, off + j, none⟩ = some (.string (S j))

/-- The sum of the first n strings' lengths. -/
def totS (S : Nat → ByteArray) : Nat → Nat
  | 0 => 0
  | n + 1 => totS S n + (S n).size

theorem StrsAt.pos {w : World} {ao : Option Addr} {n k : Nat} {S : Nat → ByteArray} (h : StrsAt w ao n S) (hk : k < n) :
    ∃ b off, ao = some ⟨b, off, none⟩ ∧ b < w.heap.size ∧ ∀ j, j < n → w.cell? ⟨b, off + j, none⟩ = some (.string (S j)) := by
  rcases h with h | h
  · omega
  · exact h

/-- A call that answers a bool, and 'true' only where p. -/
def Says (p : Prop) (e : Ending) : Prop := ∃ r : Bool, e = .returned (.bool r) ∧ (r = true → p)
theorem Says.no {p : Prop} : Says p (.returned (.bool false)) := ⟨false, rfl, fun h => by cases h⟩
theorem Says.yes {p : Prop} (h : p) : Says p (.returned (.bool true)) := ⟨true, rfl, fun _ => h⟩

theorem ret_bool {a b : Bool} (h : a = b) : Ending.returned (.bool a) = .returned (.bool b) := by rw [h]

set_option maxHeartbeats 1000000 in
theorem bytes_any (ao bo : Option Addr) (n c m d : Nat) (A B : Nat → ByteArray) (w : World) (hn : n ≤ 9223372036854775807) (hm : m ≤ 9223372036854775807)
    (hA : StrsAt w ao n A) (hB : StrsAt w bo m B) (sA : ∀ j, j < n → (A j).size ≤ 9223372036854775807) (sB : ∀ j, j < m → (B j).size ≤ 9223372036854775807) :
    Calls Tryd.prog 6 #[.slice ao n c, .slice bo m d] w fun e w' => Says (n + totS A n + m + totS B m ≤ 1048576) e ∧ w' = w := by
  have HA : Hid (StrsAt w ao n A) := hA
  have HB : Hid (StrsAt w bo m B) := hB
  have SA : Hid (∀ j, j < n → (A j).size ≤ 9223372036854775807) := sA
  have SB : Hid (∀ j, j < m → (B j).size ≤ 9223372036854775807) := sB
  clear hA hB sA sB
  go_enter Tryd.func6, Tryd.ntmps6
  go_wp2
  · go_ret
    exact ⟨Says.no, rfl⟩
  · go_loop [5, 6] (fun z i => ∃ k : Nat, k ≤ n ∧ i = .int .i64 k ∧ z = .int .i64 ((n + totS A k : Nat) : Int) ∧ n + totS A k ≤ 1048576) (fun _ i => n - (intOf i).toNat)
    case atStart => exact ⟨0, Nat.zero_le _, rfl, by go_num, by simp [totS]; omega⟩
    case round =>
      obtain ⟨k, hk, rfl, rfl, hz⟩ := hrel
      by_cases hlt : k < n
      · obtain ⟨b, off, rfl, hb, hc⟩ := HA.out.pos hlt
        have hck := hc k hlt
        have hsz := SA.out k hlt
        have ht : Hid (totS A (k + 1) = totS A k + (A k).size) := rfl
        clear hc
        go_wp2
        · go_ret
          exact ⟨Says.no, rfl⟩
        · go_ret
          exact ⟨Says.no, rfl⟩
        · go_round
          case rel => exact ⟨k + 1, by omega, by go_num, by rw [ht.out]; go_num, by rw [ht.out]; omega⟩
          case measure => simp [intOf]; omega
      · obtain rfl : k = n := by omega
        go_wp2
        · go_ret
          exact ⟨Says.no, rfl⟩
        · go_ret
          exact ⟨Says.no, rfl⟩
        · go_loop [5, 7] (fun z i => ∃ j : Nat, j ≤ m ∧ i = .int .i64 j ∧ z = .int .i64 ((k + totS A k + m + totS B j : Nat) : Int) ∧ k + totS A k + m + totS B j ≤ 1048576) (fun _ i => m - (intOf i).toNat)
          case atStart => exact ⟨0, Nat.zero_le _, rfl, by go_num, by simp [totS]; omega⟩
          case round =>
            obtain ⟨j, hj, rfl, rfl, hy⟩ := hrel
            by_cases hjt : j < m
            · obtain ⟨b, off, rfl, hb, hc⟩ := HB.out.pos hjt
              have hck := hc j hjt
              have hsz := SB.out j hjt
              have ht : Hid (totS B (j + 1) = totS B j + (B j).size) := rfl
              clear hc
              go_wp2
              · go_ret
                exact ⟨Says.no, rfl⟩
              · go_ret
                exact ⟨Says.no, rfl⟩
              · go_round
                case rel => exact ⟨j + 1, by omega, by go_num, by rw [ht.out]; go_num, by rw [ht.out]; omega⟩
                case measure => simp [intOf]; omega
            · obtain rfl : j = m := by omega
              go_wp2
              go_ret
              exact ⟨Says.yes (by omega), rfl⟩

set_option maxHeartbeats 1000000 in
theorem tooBig_any (ao bo : Option Addr) (n c m d : Nat) (A B : Nat → ByteArray) (w : World) (hn : n ≤ 9223372036854775807) (hm : m ≤ 9223372036854775807)
    (hA : StrsAt w ao n A) (hB : StrsAt w bo m B) (sA : ∀ j, j < n → (A j).size ≤ 9223372036854775807) (sB : ∀ j, j < m → (B j).size ≤ 9223372036854775807) :
    Calls Tryd.prog 7 #[.slice ao n c, .slice bo m d, .int .i64 1048576] w fun e w' => Says True e ∧ w' = w := by
  have HA : Hid (StrsAt w ao n A) := hA
  have HB : Hid (StrsAt w bo m B) := hB
  have SA : Hid (∀ j, j < n → (A j).size ≤ 9223372036854775807) := sA
  have SB : Hid (∀ j, j < m → (B j).size ≤ 9223372036854775807) := sB
  clear hA hB sA sB
  go_enter Tryd.func7, Tryd.ntmps7
  go_wp2
  go_loop [7, 8] (fun z i => ∃ k y : Nat, k ≤ n ∧ i = .int .i64 k ∧ z = .int .i64 (y : Int) ∧ y ≤ 1048576) (fun _ i => n - (intOf i).toNat)
  case atStart => exact ⟨0, 0, Nat.zero_le _, rfl, rfl, by omega⟩
  case round =>
    obtain ⟨k, y, hk, rfl, rfl, hz⟩ := hrel
    by_cases hlt : k < n
    · obtain ⟨b, off, rfl, hb, hc⟩ := HA.out.pos hlt
      have hck := hc k hlt
      have hsz := SA.out k hlt
      clear hc
      by_cases h1 : (1048576 : Int) < (y : Int) + 16
      · go_wp2
        go_ret
        exact ⟨Says.yes trivial, rfl⟩
      · by_cases h2 : (1048576 : Int) - ((y : Int) + 16) < ((A k).size : Int)
        · go_wp2
          go_ret
          exact ⟨Says.yes trivial, rfl⟩
        · go_wp2
          go_round
          case rel => exact ⟨k + 1, y + 16 + (A k).size, by omega, by go_num, by go_num, by omega⟩
          case measure => simp [intOf]; omega
    · obtain rfl : k = n := by omega
      go_wp2
      go_loop [7, 9] (fun z i => ∃ j y : Nat, j ≤ m ∧ i = .int .i64 j ∧ z = .int .i64 (y : Int) ∧ y ≤ 1048576) (fun _ i => m - (intOf i).toNat)
      case atStart => exact ⟨0, y, Nat.zero_le _, rfl, rfl, by omega⟩
      case round =>
        clear hz
        obtain ⟨j, y, hj, rfl, rfl, hz⟩ := hrel
        by_cases hjt : j < m
        · obtain ⟨b, off, rfl, hb, hc⟩ := HB.out.pos hjt
          have hck := hc j hjt
          have hsz := SB.out j hjt
          clear hc
          by_cases h1 : (1048576 : Int) < (y : Int) + 16
          · go_wp2
            go_ret
            exact ⟨Says.yes trivial, rfl⟩
          · by_cases h2 : (1048576 : Int) - ((y : Int) + 16) < ((B j).size : Int)
            · go_wp2
              go_ret
              exact ⟨Says.yes trivial, rfl⟩
            · go_wp2
              go_round
              case rel => exact ⟨j + 1, y + 16 + (B j).size, by omega, by go_num, by go_num, by omega⟩
              case measure => simp [intOf]; omega
        · obtain rfl : j = m := by omega
          go_wp2
          go_ret
          exact ⟨Says.no, rfl⟩
end Go.Proofs.Qxb6003968aDoor
