import Derived.Test.Qxb6606210aDoorWalkA
import Derived.BigQuiet
import Derived.WalkSmall
import Derived.Deep.QuietTactic
set_option linter.unusedSimpArgs false
set_option linter.unusedVariables false
namespace Go.Proofs.Qxb6606210aDoor
open Go.RowKit Go.PlainAid

/-- lowerASCII. -/
def low (x : Int) : Int := if 65 ≤ x ∧ x ≤ 90 then x + 32 else x
/-- The header's bytes. -/
def HD : List Int := [73, 100, 101, 109, 112, 111, 116, 101, 110, 99, 121, 45, 75, 101, 121]
/-- Are the bytes f j, f (j + 1), .. up to n the rest of the header? -/
def kn (f : Nat → Int) (n : Nat) : List Int → Nat → Bool
  | [], j => j == n
  | h :: hs, j => if n ≤ j then false else if low (f j) = low h then kn f n hs (j + 1) else if h = 75 ∧ j + 3 ≤ n ∧ f j = 226 ∧ f (j + 1) = 132 ∧ f (j + 2) = 170 then kn f n hs (j + 3) else false

theorem low_any (x : Int) (w : World) (h0 : 0 ≤ x) (h1 : x ≤ 255) :
    Calls Tryd.prog 27 #[.int .u8 x] w fun e w' => e = .returned (.int .u8 (low x)) ∧ w' = w := by
  unfold low
  by_cases h2 : 65 ≤ x
  · by_cases h3 : x ≤ 90
    · rw [if_pos ⟨h2, h3⟩]
      go_enter Tryd.func27, Tryd.ntmps27
      go_wp2
      go_ret
      exact ⟨rfl, rfl⟩
    · rw [if_neg (fun h => h3 h.2)]
      go_enter Tryd.func27, Tryd.ntmps27
      go_wp2
      go_ret
      exact ⟨rfl, rfl⟩
  · rw [if_neg (fun h => h2 h.1)]
    go_enter Tryd.func27, Tryd.ntmps27
    go_wp2
    go_ret
    exact ⟨rfl, rfl⟩

theorem HD_drop (i : Nat) (hi : i < 15) : HD.drop i = HD.getD i 0 :: HD.drop (i + 1) := by
  have : i < HD.length := hi
  rw [List.drop_eq_getElem_cons this]
  simp [List.getD, List.getElem?_eq_getElem this]

theorem hd_index (i : Nat) (hi : i < 15) (w : World) : (Instr.index 9 (.string ⟨#[73, 100, 101, 109, 112, 111, 116, 101, 110, 99, 121, 45, 75, 101, 121]⟩) (.int .i64 i)).run Tryd.prog w = .ok (.int .u8 (HD.getD i 0)) w := by
  have : i = 0 ∨ i = 1 ∨ i = 2 ∨ i = 3 ∨ i = 4 ∨ i = 5 ∨ i = 6 ∨ i = 7 ∨ i = 8 ∨ i = 9 ∨ i = 10 ∨ i = 11 ∨ i = 12 ∨ i = 13 ∨ i = 14 := by omega
  rcases this with rfl | rfl | rfl | rfl | rfl | rfl | rfl | rfl | rfl | rfl | rfl | rfl | rfl | rfl | rfl <;> (rw [run_index_string w 9 _ .i64 _ Tryd.underlying9]; rfl)

theorem HD_range (i : Nat) (hi : i < 15) : 45 ≤ HD.getD i 0 ∧ HD.getD i 0 ≤ 121 := by
  have : i = 0 ∨ i = 1 ∨ i = 2 ∨ i = 3 ∨ i = 4 ∨ i = 5 ∨ i = 6 ∨ i = 7 ∨ i = 8 ∨ i = 9 ∨ i = 10 ∨ i = 11 ∨ i = 12 ∨ i = 13 ∨ i = 14 := by omega
  rcases this with rfl | rfl | rfl | rfl | rfl | rfl | rfl | rfl | rfl | rfl | rfl | rfl | rfl | rfl | rfl <;> decide

set_option maxHeartbeats 2000000 in
set_option maxRecDepth 100000 in
theorem isKey_any (b n c : Nat) (f : Nat → Int) (w : World) (hn : n ≤ 1048576) (hb : b < w.heap.size) (hc : ∀ j, j < n → w.cell? ⟨b, j, none⟩ = some (.int .u8 (f j))) (hf : ∀ j, 0 ≤ f j ∧ f j ≤ 255) :
    Calls Tryd.prog 20 #[.slice (some ⟨b, 0, none⟩) n c] w fun e w' => e = .returned (.bool (kn f n HD 0)) ∧ Below w.heap.size w w' := by
  have HC := hid hc
  have HF := hid hf
  clear hc hf
  generalize hR : kn f n HD 0 = R
  have HR := hid hR
  clear hR
  go_enter Tryd.func20, Tryd.ntmps20
  go_wp2
  go_loopw [3, 4] (fun u v wr => ∃ i j : Nat, i ≤ 15 ∧ j ≤ n ∧ v = .int .i64 i ∧ u = .int .i64 j ∧ Hid (kn f n (HD.drop i) j = R) ∧ Hid (Below w.heap.size w wr)) (fun _ v _ => 15 - (intOf v).toNat)
  case atStart => exact ⟨0, 0, by omega, by omega, rfl, rfl, HR, Below.refl _ _⟩
  case round =>
    obtain ⟨i, j, hi, hj, rfl, rfl, hk, HB⟩ := hrel
    by_cases hlt : i < 15
    · by_cases hjn : (n : Int) ≤ (j : Int)
      · have hr : Hid (false = R) := by
          have h := hk.out
          rw [HD_drop i hlt] at h
          unfold kn at h
          rw [if_pos (by omega)] at h
          exact h
        go_wp2
        go_ret
        exact ⟨ret_bool hr.out, HB.out⟩
      · have hix := fun w => hd_index i hlt w
        obtain ⟨h0, h1⟩ := HD_range i hlt
        have hcj := (HB.out.cell (p := ⟨b, j, none⟩) hb).trans (HC.out j (by omega))
        obtain ⟨f0, f1⟩ := HF.out j
        have hk' := hk.out
        rw [HD_drop i hlt] at hk'
        unfold kn at hk'
        rw [if_neg (by omega)] at hk'
        generalize hH : HD.getD i 0 = H at hix h0 h1 hk'
        clear hH
        by_cases hl : low (f j) = low H
        · rw [if_pos hl] at hk'
          replace hk' := hid hk'
          have hle : ((low (f j)) == (low H)) = true := by simp [hl]
          clear hl
          generalize f j = y at *
          go_wp2_with fail
          go_quiet ((go_at_call 27; exact Calls.quiet_of_same (low_any _ _ (by omega) (by omega))))
          go_wp2
          go_roundw
          case rel => exact ⟨i + 1, j + 1, by omega, by omega, by go_num, by go_num, hk', below_drewN HB.out _⟩
          case measure => simp [intOf]; omega
        · rw [if_neg hl] at hk'
          have hle : ((low (f j)) == (low H)) = false := by simp [hl]
          clear hl
          by_cases g1 : H = 75
          rotate_left
          · rw [if_neg (fun h => g1 h.1)] at hk'
            replace hk' := hid hk'
            replace g1 : (H == 75) = false := by simp [g1]
            go_wp2_with fail
            go_quiet ((go_at_call 27; exact Calls.quiet_of_same (low_any _ _ (by omega) (by omega))))
            go_wp2
            go_ret
            exact ⟨ret_bool hk'.out, below_drewN HB.out _⟩
          by_cases g2 : j + 3 ≤ n
          rotate_left
          · rw [if_neg (fun h => g2 h.2.1)] at hk'
            replace hk' := hid hk'
            replace g1 : (H == 75) = true := by simp [g1]
            replace g2 : ¬ ((j : Int) + 3 ≤ (n : Int)) := by omega
            go_wp2_with fail
            go_quiet ((go_at_call 27; exact Calls.quiet_of_same (low_any _ _ (by omega) (by omega))))
            go_wp2
            go_ret
            exact ⟨ret_bool hk'.out, below_drewN HB.out _⟩
          by_cases g3 : f j = 226
          rotate_left
          · rw [if_neg (fun h => g3 h.2.2.1)] at hk'
            replace hk' := hid hk'
            replace g1 : (H == 75) = true := by simp [g1]
            replace g2 : ((j : Int) + 3 ≤ (n : Int)) := by omega
            replace g3 : (f j == 226) = false := by simp [g3]
            generalize f j = y at *
            go_wp2_with fail
            go_quiet ((go_at_call 27; exact Calls.quiet_of_same (low_any _ _ (by omega) (by omega))))
            go_wp2
            go_ret
            exact ⟨ret_bool hk'.out, below_drewN HB.out _⟩
          have hc1 := (HB.out.cell (p := ⟨b, j + 1, none⟩) hb).trans (HC.out (j + 1) (by omega))
          have hc2 := (HB.out.cell (p := ⟨b, j + 2, none⟩) hb).trans (HC.out (j + 2) (by omega))
          by_cases g4 : f (j + 1) = 132
          rotate_left
          · rw [if_neg (fun h => g4 h.2.2.2.1)] at hk'
            replace hk' := hid hk'
            replace g1 : (H == 75) = true := by simp [g1]
            replace g2 : ((j : Int) + 3 ≤ (n : Int)) := by omega
            replace g3 : (f j == 226) = true := by simp [g3]
            replace g4 : (f (j + 1) == 132) = false := by simp [g4]
            generalize f j = y at *
            generalize f (j + 1) = y1 at *
            clear hc2
            go_wp2_with fail
            go_quiet ((go_at_call 27; exact Calls.quiet_of_same (low_any _ _ (by omega) (by omega))))
            go_wp2
            go_ret
            exact ⟨ret_bool hk'.out, below_drewN HB.out _⟩
          by_cases g5 : f (j + 2) = 170
          · rw [if_pos ⟨g1, g2, g3, g4, g5⟩] at hk'
            replace hk' := hid hk'
            replace g1 : (H == 75) = true := by simp [g1]
            replace g2 : ((j : Int) + 3 ≤ (n : Int)) := by omega
            replace g3 : (f j == 226) = true := by simp [g3]
            replace g4 : (f (j + 1) == 132) = true := by simp [g4]
            replace g5 : (f (j + 2) == 170) = true := by simp [g5]
            generalize f j = y at *
            generalize f (j + 1) = y1 at *
            generalize f (j + 2) = y2 at *
            go_wp2_with fail
            go_quiet ((go_at_call 27; exact Calls.quiet_of_same (low_any _ _ (by omega) (by omega))))
            go_wp2
            go_roundw
            case rel => exact ⟨i + 1, j + 3, by omega, by omega, by go_num, by go_num, hk', below_drewN HB.out _⟩
            case measure => simp [intOf]; omega
          · rw [if_neg (fun h => g5 h.2.2.2.2)] at hk'
            replace hk' := hid hk'
            replace g1 : (H == 75) = true := by simp [g1]
            replace g2 : ((j : Int) + 3 ≤ (n : Int)) := by omega
            replace g3 : (f j == 226) = true := by simp [g3]
            replace g4 : (f (j + 1) == 132) = true := by simp [g4]
            replace g5 : (f (j + 2) == 170) = false := by simp [g5]
            generalize f j = y at *
            generalize f (j + 1) = y1 at *
            generalize f (j + 2) = y2 at *
            go_wp2_with fail
            go_quiet ((go_at_call 27; exact Calls.quiet_of_same (low_any _ _ (by omega) (by omega))))
            go_wp2
            go_ret
            exact ⟨ret_bool hk'.out, below_drewN HB.out _⟩
    · obtain rfl : i = 15 := by omega
      have hr : Hid (((j : Int) == (n : Int)) = R) := by
        have h : (j == n) = R := hk.out
        show _ = R
        rw [← h, Bool.eq_iff_iff]; simp; omega
      go_wp2
      go_ret
      exact ⟨ret_bool hr.out, HB.out⟩
end Go.Proofs.Qxb6606210aDoor
