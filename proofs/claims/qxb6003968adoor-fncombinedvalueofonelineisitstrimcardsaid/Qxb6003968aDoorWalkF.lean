import Derived.Test.Qxb6003968aDoorWalkE
import Derived.Test.Qxb6003968aDoorPlainTwo
set_option linter.unusedSimpArgs false
set_option linter.unusedVariables false
namespace Go.Proofs.Qxb6003968aDoor
open Go.RowKit

theorem cmB_zero (S : Nat → ByteArray) : cmB S 0 = ⟨#[]⟩ := by
  unfold cmB
  rw [show (List.range 0).map S = [] from rfl, Pl.comb_nil]

theorem extract_list (l : ByteArray) (a b : Nat) : (l.extract a b).data.toList = (l.data.toList.drop a).take (b - a) := by
  simp [ByteArray.data_extract, List.extract_eq_take_drop]

theorem cut_facts (l : ByteArray) : ∃ (R : ByteArray) (k : Nat), trB l = R ∧ k + R.size ≤ l.size ∧ l.extract k (k + R.size) = R ∧ allWS (l.extract 0 k) = true ∧ allWS (l.extract (k + R.size) l.size) = true ∧
    (∀ h : 0 < R.size, wsB R[0] = false) ∧ (∀ h : 0 < R.size, wsB (R[R.size - 1]'(by omega)) = false) := by
  have hz : (trB l).size = (Lib.trimS l.data.toList [32, 9]).length := by simp [trB, Pl.tr, ByteArray.size]
  have hd : (trB l).data.toList = Lib.trimS l.data.toList [32, 9] := by simp [trB, Pl.tr]
  obtain ⟨k, h1, h2, h3, h4, h5, h6⟩ := trim_cut l.data.toList
  rw [← hz] at h1 h2 h4
  rw [← hd] at h2 h5 h6
  have hl : l.data.toList.length = l.size := by rw [Array.length_toList]; rfl
  refine ⟨trB l, k, rfl, by omega, ?_, ?_, ?_, ?_, ?_⟩
  · apply ByteArray.ext
    apply Array.toList_inj.1
    rw [extract_list, Nat.add_sub_cancel_left, h2]
  · unfold allWS
    rw [extract_list, Nat.sub_zero, List.drop_zero]
    exact h3
  · unfold allWS
    rw [extract_list, List.take_of_length_le (by rw [List.length_drop]; omega)]
    exact h4
  · intro h
    apply h5
    rw [List.head?_eq_getElem?, Array.getElem?_toList]
    exact Array.getElem?_eq_getElem h
  · intro h
    apply h6
    rw [List.getLast?_eq_getElem?, Array.getElem?_toList, Array.length_toList]
    have : (trB l).size - 1 < (trB l).data.size := by show _ < (trB l).size; omega
    exact Array.getElem?_eq_getElem this

set_option maxHeartbeats 1000000 in
theorem one_any (hcomb : CombC) (l : ByteArray) (w : World) (hl : l.size ≤ 9223372036854775807) :
    Calls Tryd.prog 4 #[.string l] w fun e w' => e = .returned (.bool true) ∧ Below w.heap.size w w' := by
  have C10 := hid (bytes1_any l w hl)
  have HC : Hid CombC := hcomb
  clear hcomb
  go_enter Tryd.func4, Tryd.ntmps4
  go_wp2_with fail
  refine C10.out.mono ?_
  rintro e w' ⟨he, hw⟩
  replace hw := hw.symm; subst hw
  rcases he.cases with ⟨rfl, hP⟩ | rfl
  rotate_left
  · go_wp2
    go_ret
    exact ⟨rfl, Below.refl _ _⟩
  clear he C10
  by_cases h4 : (4096 : Int) < (l.size : Int)
  · go_wp2
    go_ret
    exact ⟨rfl, Below.refl _ _⟩
  have K1 := hid (HC.out none 0 0 (fun _ => l) w (by omega) (by simp [totS]) (Or.inl rfl))
  rw [cmB_zero] at K1
  go_wp2_with fail
  refine K1.out.mono ?_
  rintro e w1 ⟨rfl, hb1⟩
  go_wp2_with fail
  have K2 := hid (HC.out (some ⟨w1.heap.size, 0, none⟩) 0 0 (fun _ => l) (w1.alloc (.cells #[] 9)) (by omega) (by simp [totS]) (Or.inl rfl))
  rw [cmB_zero] at K2
  refine K2.out.mono ?_
  rintro e w2 ⟨rfl, hb2⟩
  have hb2' : Below w1.heap.size w1 w2 := ((Below.refl _ _).alloc (Nat.le_refl _) _).trans (hb2.mono (by simp))
  clear hb2
  go_wp2_with fail
  have K3 := hid (HC.out (some ⟨w2.heap.size, 0, none⟩) 1 1 (fun _ => l) (w2.alloc (.cells #[.string l] 9)) (by omega) (by simp [totS]; omega) (Or.inr ⟨w2.heap.size, 0, rfl, by simp, fun j hj => by obtain rfl : j = 0 := (by omega); simp⟩))
  rw [cmB_one] at K3
  refine K3.out.mono ?_
  rintro e w3 ⟨rfl, hb3⟩
  have hb3' : Below w2.heap.size w2 w3 := ((Below.refl _ _).alloc (Nat.le_refl _) _).trans (hb3.mono (by simp))
  have HB3 : Below w.heap.size w w3 := chain (chain hb1 hb2' (Nat.le_refl _)) hb3' (Nat.le_refl _)
  clear hb3 hb3' hb2' hb1 K1 K2 K3 HC
  obtain ⟨R, k, hR, f1, f2, f3, f4, f5, f6⟩ := cut_facts l
  rw [hR]
  clear hR
  have F2 := hid f2
  have F3 := hid f3
  have F4 := hid f4
  clear f2 f3 f4
  have arm : (0 : Int) < (R.size : Int) ∨ ¬ (0 : Int) < (R.size : Int) := Classical.em _
  rcases arm with hR0 | hR0
  case' inl =>
    have hR0' : 0 < R.size := by omega
    have c1 := fun w => isWS_any (R[0]'hR0') w
    have c2 := fun w => isWS_any (R[R.size - 1]'(by omega)) w
    rw [f5 hR0'] at c1
    rw [f6 hR0'] at c2
    clear f5 f6
    go_wp2_with fail
    refine (c1 _).mono ?_
    rintro e w' ⟨rfl, hw⟩
    replace hw := hw.symm; subst hw
    go_wp2_with fail
    refine (c2 _).mono ?_
    rintro e w' ⟨rfl, hw⟩
    replace hw := hw.symm; subst hw
    clear c1 c2
    go_wp2_with fail
  case' inr =>
    clear f5 f6
    go_wp2_with fail
  all_goals
    go_loop [4] (fun i => ∃ j : Nat, j ≤ k ∧ i = .int .i64 j) (fun i => k - (intOf i).toNat)
    case atStart => exact ⟨0, Nat.zero_le _, rfl⟩
    case round =>
      obtain ⟨j, hj, rfl⟩ := hrel
      by_cases ht : (l.extract j (j + R.size)).toList = R.toList
      · have z0 : (l.extract 0 j).size ≤ 9223372036854775807 := by rw [ByteArray.size_extract]; omega
        have z1 : (l.extract (j + R.size) l.size).size ≤ 9223372036854775807 := by rw [ByteArray.size_extract]; omega
        have c1 := hid (fun w => allWS_any (l.extract 0 j) w z0)
        have c2 := hid (fun w => allWS_any (l.extract (j + R.size) l.size) w z1)
        clear z0 z1
        cases hb : allWS (l.extract 0 j) with
        | false =>
          have hjk : j < k := by
            rcases Nat.lt_or_eq_of_le hj with h | h
            · exact h
            · rw [h, F3.out] at hb; cases hb
          rw [hb] at c1
          clear hb
          go_wp2_with fail
          refine (c1.out _).mono ?_
          rintro e w' ⟨rfl, hw⟩
          replace hw := hw.symm; subst hw
          go_wp2_with fail
          go_round
          case rel => exact ⟨j + 1, by omega, by go_num⟩
          case measure => simp [intOf]; omega
        | true =>
          rw [hb] at c1
          clear hb
          cases hb2 : allWS (l.extract (j + R.size) l.size) with
          | false =>
            have hjk : j < k := by
              rcases Nat.lt_or_eq_of_le hj with h | h
              · exact h
              · rw [h, F4.out] at hb2; cases hb2
            rw [hb2] at c2
            clear hb2
            go_wp2_with fail
            refine (c1.out _).mono ?_
            rintro e w' ⟨rfl, hw⟩
            replace hw := hw.symm; subst hw
            go_wp2_with fail
            refine (c2.out _).mono ?_
            rintro e w' ⟨rfl, hw⟩
            replace hw := hw.symm; subst hw
            go_wp2_with fail
            go_round
            case rel => exact ⟨j + 1, by omega, by go_num⟩
            case measure => simp [intOf]; omega
          | true =>
            rw [hb2] at c2
            clear hb2
            go_wp2_with fail
            refine (c1.out _).mono ?_
            rintro e w' ⟨rfl, hw⟩
            replace hw := hw.symm; subst hw
            go_wp2_with fail
            refine (c2.out _).mono ?_
            rintro e w' ⟨rfl, hw⟩
            replace hw := hw.symm; subst hw
            go_wp2_with fail
            go_ret
            exact ⟨rfl, HB3⟩
      · have hjk : j < k := by
          rcases Nat.lt_or_eq_of_le hj with h | h
          · exact h
          · rw [h, F2.out] at ht; exact absurd rfl ht
        go_wp2_with fail
        go_round
        case rel => exact ⟨j + 1, by omega, by go_num⟩
        case measure => simp [intOf]; omega
end Go.Proofs.Qxb6003968aDoor
