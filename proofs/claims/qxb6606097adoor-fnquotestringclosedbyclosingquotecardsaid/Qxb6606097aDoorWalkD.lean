import Derived.Test.Qxb6606097aDoorWalkC
set_option linter.unusedSimpArgs false
set_option linter.unusedVariables false
namespace Go.Proofs.Qxb6606097aDoor
open Go.RowKit Go.PlainAid

theorem posOf_le (f : UInt8 → List UInt8) (pre : Nat) (v : List UInt8) (k : Nat) : Pl.posOf f pre v k ≤ pre + (v.flatMap f).length := by
  unfold Pl.posOf
  have h : v.flatMap f = (v.take k).flatMap f ++ (v.drop k).flatMap f := by rw [← List.flatMap_append, List.take_append_drop]
  rw [h, List.length_append]
  omega

theorem len_data (s : ByteArray) : s.data.toList.length = s.size := by rw [Array.length_toList]; rfl
theorem get_data (s : ByteArray) (k : Nat) (h : k < s.size) (h' : k < s.data.toList.length) : s.data.toList[k] = s[k]'h := by simp; rfl

/-- The place of byte k in the plain writing; in the escape writing. -/
def pp (s : ByteArray) (k : Nat) : Nat := Pl.posOf Pl.dq 1 s.data.toList k
def pe (s : ByteArray) (k : Nat) : Nat := Pl.posOf Pl.esc 2 s.data.toList k

theorem plB_size (s : ByteArray) : (plB s).size = (Pl.dbl s.data.toList).length + 2 := by
  show ([39] ++ Pl.dbl s.data.toList ++ [39]).toArray.size = _
  simp
theorem esB_size (s : ByteArray) : (esB s).size = (Pl.escs s.data.toList).length + 3 := by
  show ([69, 39] ++ Pl.escs s.data.toList ++ [39]).toArray.size = _
  simp

theorem pp_zero (s : ByteArray) : pp s 0 = 1 := Pl.posOf_zero _ _ _
theorem pe_zero (s : ByteArray) : pe s 0 = 2 := Pl.posOf_zero _ _ _
theorem pp_end (s : ByteArray) : pp s s.size + 1 = (plB s).size := by
  rw [plB_size]
  have := Pl.posOf_end Pl.dq 1 s.data.toList
  rw [len_data] at this
  unfold pp Pl.dbl
  omega
theorem pe_end (s : ByteArray) : pe s s.size + 1 = (esB s).size := by
  rw [esB_size]
  have := Pl.posOf_end Pl.esc 2 s.data.toList
  rw [len_data] at this
  unfold pe Pl.escs
  omega
theorem pp_le (s : ByteArray) (k : Nat) : pp s k + 1 ≤ (plB s).size := by
  rw [plB_size]
  have := posOf_le Pl.dq 1 s.data.toList k
  unfold pp Pl.dbl
  omega
theorem pe_le (s : ByteArray) (k : Nat) : pe s k + 1 ≤ (esB s).size := by
  rw [esB_size]
  have := posOf_le Pl.esc 2 s.data.toList k
  unfold pe Pl.escs
  omega
theorem pp_succ (s : ByteArray) (k : Nat) (h : k < s.size) : pp s (k + 1) = pp s k + (Pl.dq (s[k]'h)).length := by
  have := Pl.posOf_succ Pl.dq 1 s.data.toList k (by rw [len_data]; exact h)
  rw [get_data s k h] at this
  exact this
theorem pe_succ (s : ByteArray) (k : Nat) (h : k < s.size) : pe s (k + 1) = pe s k + (Pl.esc (s[k]'h)).length := by
  have := Pl.posOf_succ Pl.esc 2 s.data.toList k (by rw [len_data]; exact h)
  rw [get_data s k h] at this
  exact this
theorem pp_at (s : ByteArray) (k : Nat) (h : k < s.size) (j : Nat) (c : UInt8) (hj : (Pl.dq (s[k]'h))[j]? = some c) : bt (plB s) (pp s k + j) = (c.toNat : Int) := by
  apply Pl.bt_list
  have hl : k < s.data.toList.length := by rw [len_data]; exact h
  have hjl := (List.getElem?_eq_some_iff.1 hj)
  obtain ⟨hj1, hj2⟩ := hjl
  have := Pl.at_pos Pl.dq [39] [39] s.data.toList k hl j (by rw [get_data s k h]; exact hj1)
  show (([39] ++ Pl.dbl s.data.toList ++ [39]).toArray).toList[pp s k + j]? = some c
  rw [List.toList_toArray]
  have e : ([39] : List UInt8).length = 1 := rfl
  rw [e] at this
  unfold pp Pl.dbl
  rw [this]
  congr 1
theorem pe_at (s : ByteArray) (k : Nat) (h : k < s.size) (j : Nat) (c : UInt8) (hj : (Pl.esc (s[k]'h))[j]? = some c) : bt (esB s) (pe s k + j) = (c.toNat : Int) := by
  apply Pl.bt_list
  have hl : k < s.data.toList.length := by rw [len_data]; exact h
  have hjl := (List.getElem?_eq_some_iff.1 hj)
  obtain ⟨hj1, hj2⟩ := hjl
  have := Pl.at_pos Pl.esc [69, 39] [39] s.data.toList k hl j (by rw [get_data s k h]; exact hj1)
  show (([69, 39] ++ Pl.escs s.data.toList ++ [39]).toArray).toList[pe s k + j]? = some c
  rw [List.toList_toArray]
  have e : ([69, 39] : List UInt8).length = 2 := rfl
  rw [e] at this
  unfold pe Pl.escs
  rw [this]
  congr 1
theorem plB_first (s : ByteArray) : bt (plB s) 0 = 39 := Pl.bt_list _ _ 39 rfl
theorem esB_first (s : ByteArray) : bt (esB s) 0 = 69 := Pl.bt_list _ _ 69 rfl
theorem esB_second (s : ByteArray) : bt (esB s) 1 = 39 := Pl.bt_list _ _ 39 rfl
theorem plB_last (s : ByteArray) : bt (plB s) (pp s s.size) = 39 := by
  apply Pl.bt_list _ _ 39
  have h := Pl.posOf_end Pl.dq 1 s.data.toList
  rw [len_data] at h
  show (([39] ++ Pl.dbl s.data.toList ++ [39]).toArray).toList[pp s s.size]? = some 39
  rw [List.toList_toArray]
  unfold pp
  rw [h]
  rw [List.getElem?_append_right (by simp [Pl.dbl]; omega)]
  simp [Pl.dbl, Nat.add_comm]
theorem esB_last (s : ByteArray) : bt (esB s) (pe s s.size) = 39 := by
  apply Pl.bt_list _ _ 39
  have h := Pl.posOf_end Pl.esc 2 s.data.toList
  rw [len_data] at h
  show (([69, 39] ++ Pl.escs s.data.toList ++ [39]).toArray).toList[pe s s.size]? = some 39
  rw [List.toList_toArray]
  unfold pe
  rw [h]
  unfold Pl.escs
  have e : ([69, 39] ++ List.flatMap Pl.esc s.data.toList).length = 2 + (List.flatMap Pl.esc s.data.toList).length := by rw [List.length_append]; rfl
  rw [List.getElem?_append_right (by rw [e]; exact Nat.le_refl _), e, Nat.sub_self]
  rfl

/-- What the reader meets at byte k of the plain writing. -/
theorem pp_round (s : ByteArray) (hctl : Pl.hasCtl s.data.toList = false) (k : Nat) (h : k < s.size) : 32 ≤ bt s k ∧
    ((bt s k = 39 ∧ bt (plB s) (pp s k) = 39 ∧ bt (plB s) (pp s k + 1) = 39 ∧ pp s (k + 1) = pp s k + 2) ∨ (bt s k ≠ 39 ∧ bt (plB s) (pp s k) = bt s k ∧ pp s (k + 1) = pp s k + 1)) := by
  constructor
  · have h1 := bt_ctl s k h
    have h2 : Pl.ctl (s[k]'h) = false := by
      unfold Pl.hasCtl at hctl
      rw [List.any_eq_false] at hctl
      have := hctl (s[k]'h) (Array.mem_toList_iff.2 (Array.getElem_mem (xs := s.data) h))
      simpa using this
    rw [h2] at h1
    have := of_decide_eq_false h1.symm
    omega
  · by_cases h39 : bt s k = 39
    · left
      have e := bt_eq s k h 39 h39
      have hd : Pl.dq (s[k]'h) = [39, 39] := by rw [e]; rfl
      refine ⟨h39, pp_at s k h 0 39 (by rw [hd]; rfl), pp_at s k h 1 39 (by rw [hd]; rfl), ?_⟩
      rw [pp_succ s k h, hd]; rfl
    · right
      have n := bt_ne s k h 39 h39
      have hd : Pl.dq (s[k]'h) = [s[k]'h] := by unfold Pl.dq; rw [if_neg n]
      refine ⟨h39, ?_, ?_⟩
      · rw [← get_bt s k h]; exact pp_at s k h 0 (s[k]'h) (by rw [hd]; rfl)
      · rw [pp_succ s k h, hd]; rfl
end Go.Proofs.Qxb6606097aDoor
