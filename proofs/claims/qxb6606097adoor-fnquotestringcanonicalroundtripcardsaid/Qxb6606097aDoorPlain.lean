import Derived.Shelf.GgClosure.StringsIndexFunc
import Derived.Lib.Replace
import Derived.PlainAid
set_option linter.unusedSimpArgs false
set_option linter.unusedVariables false
namespace Go.Proofs.Qxb6606097aDoor.Pl
open Go Go.PlainAid

theorem get_bang (s : ByteArray) (k : Nat) (h : k < s.size) : s.get! k = s[k] := by
  cases s with
  | mk d => exact getElem!_pos d k h

/-- What one step of decoding takes: one byte below 128; or a rune of 128 or more, and no byte below 128. -/
theorem dec (s : ByteArray) (i : Nat) :
    ((s.get! i).toNat < 128 → (Utf8.decode s i) = ((s.get! i).toNat, 1)) ∧
    (128 ≤ (s.get! i).toNat → 128 ≤ (Utf8.decode s i).1 ∧ 1 ≤ (Utf8.decode s i).2 ∧ ∀ k, 1 ≤ k → k < (Utf8.decode s i).2 → 128 ≤ (s.get! (i + k)).toNat) := by
  constructor
  · intro h
    unfold Utf8.decode
    simp only [Nat.add_zero]
    rw [if_pos h]
  · intro h
    unfold Utf8.decode
    simp only [Nat.add_zero]
    rw [if_neg (by omega)]
    have one : 128 ≤ (Utf8.runeError, 1).1 ∧ 1 ≤ (Utf8.runeError, 1).2 ∧ ∀ k, 1 ≤ k → k < (Utf8.runeError, 1).2 → 128 ≤ (s.get! (i + k)).toNat :=
      ⟨by decide, Nat.le_refl _, fun k h1 h2 => by simp at h2; omega⟩
    split
    · rename_i h2
      simp only [Bool.and_eq_true, beq_iff_eq, decide_eq_true_eq] at h2
      split
      · rename_i h3
        refine ⟨h3, by simp, fun k k1 k2 => ?_⟩
        simp at k2
        obtain rfl : k = 1 := by omega
        omega
      · exact one
    · split
      · rename_i h2
        simp only [Bool.and_eq_true, beq_iff_eq, decide_eq_true_eq] at h2
        split
        · rename_i h3
          simp only [Bool.and_eq_true, decide_eq_true_eq] at h3
          refine ⟨by simp only; omega, by simp, fun k k1 k2 => ?_⟩
          simp at k2
          have : k = 1 ∨ k = 2 := by omega
          rcases this with rfl | rfl <;> omega
        · exact one
      · split
        · rename_i h2
          simp only [Bool.and_eq_true, beq_iff_eq, decide_eq_true_eq] at h2
          split
          · rename_i h3
            simp only [Bool.and_eq_true, decide_eq_true_eq] at h3
            refine ⟨by simp only; omega, by simp, fun k k1 k2 => ?_⟩
            simp at k2
            have : k = 1 ∨ k = 2 ∨ k = 3 := by omega
            rcases this with rfl | rfl | rfl <;> omega
          · exact one
        · exact one

/-- A byte below 32. -/
def ctl (c : UInt8) : Bool := decide (c.toNat < 32)
/-- The predicate of breaksLine's function literal. -/
def low (r : Nat) : Bool := decide (r < 32)

theorem idx_ctl (s : ByteArray) : ∀ (f pos : Nat), s.size ≤ pos + f → ((0 ≤ Lib.idxFuncFrom low true s f pos) ↔ ∃ j, pos ≤ j ∧ j < s.size ∧ (s.get! j).toNat < 32)
  | 0, pos, h => by
    constructor
    · intro h1; simp [Lib.idxFuncFrom] at h1
    · rintro ⟨j, h1, h2, _⟩; omega
  | f + 1, pos, h => by
    unfold Lib.idxFuncFrom
    by_cases hp : pos < s.size
    · rw [if_pos hp]
      by_cases hb : (s.get! pos).toNat < 128
      · rw [(dec s pos).1 hb]
        simp only
        by_cases hc : (s.get! pos).toNat < 32
        · rw [if_pos (by simp [low, hc])]
          exact ⟨fun _ => ⟨pos, Nat.le_refl _, hp, hc⟩, fun _ => by omega⟩
        · rw [if_neg (by simp [low]; omega), idx_ctl s f (pos + 1) (by omega)]
          constructor
          · rintro ⟨j, h1, h2, h3⟩; exact ⟨j, by omega, h2, h3⟩
          · rintro ⟨j, h1, h2, h3⟩
            refine ⟨j, ?_, h2, h3⟩
            rcases Nat.lt_or_eq_of_le h1 with h4 | h4
            · omega
            · subst h4; omega
      · obtain ⟨d1, d2, d3⟩ := (dec s pos).2 (by omega)
        rw [if_neg (by simp [low]; omega), idx_ctl s f _ (by omega)]
        constructor
        · rintro ⟨j, h1, h2, h3⟩; exact ⟨j, by omega, h2, h3⟩
        · rintro ⟨j, h1, h2, h3⟩
          refine ⟨j, ?_, h2, h3⟩
          apply Nat.le_of_not_lt
          intro h4
          rcases Nat.lt_or_eq_of_le h1 with h5 | h5
          · have := d3 (j - pos) (by omega) (by omega)
            rw [show pos + (j - pos) = j by omega] at this
            omega
          · subst h5; omega
    · rw [if_neg hp]
      constructor
      · intro h1; omega
      · rintro ⟨j, h1, h2, _⟩; omega

/-- Does the text hold a byte below 32? -/
def hasCtl (l : List UInt8) : Bool := l.any ctl

theorem contains_ctl (s : ByteArray) : decide (0 ≤ Lib.idxFunc low true s) = hasCtl s.data.toList := by
  rw [Bool.eq_iff_iff, decide_eq_true_iff]
  unfold Lib.idxFunc
  rw [idx_ctl s s.size 0 (by omega)]
  unfold hasCtl
  rw [List.any_eq_true]
  constructor
  · rintro ⟨j, _, h2, h3⟩
    rw [get_bang s j h2] at h3
    exact ⟨s[j], Array.mem_toList_iff.2 (Array.getElem_mem (xs := s.data) h2), by simpa [ctl] using h3⟩
  · rintro ⟨x, hx, hc⟩
    obtain ⟨j, hj, rfl⟩ := List.getElem_of_mem hx
    have hj' : j < s.size := by simpa using hj
    refine ⟨j, Nat.zero_le _, hj', ?_⟩
    rw [get_bang s j hj']
    have hc' : s.data[j].toNat < 32 := by simpa [ctl] using hc
    exact hc'

/-- A quote is written twice. -/
def dq (c : UInt8) : List UInt8 := if c = 39 then [39, 39] else [c]
def dbl (l : List UInt8) : List UInt8 := l.flatMap dq

theorem replace_dbl (l : List UInt8) : Lib.replaceAll l [39] [39, 39] = dbl l := by
  have e : Lib.replaceAll l [39] [39, 39] = Lib.replaceK [39] [39, 39] (Lib.count l [39]) l := by
    unfold Lib.replaceAll Lib.replace Lib.replaceNum
    rw [if_neg (by decide), if_pos (Or.inl (by decide))]
  rw [e]
  clear e
  induction l with
  | nil => rfl
  | cons c r ih =>
    by_cases hc : c = 39
    · subst hc
      rw [Lib.count_cons_eq, Nat.add_comm, Lib.replaceK_hit [39] [39, 39] _ _ 0 (by unfold Lib.index; rw [if_pos (by simp)]; rfl)]
      simp only [List.take_zero, List.nil_append, List.length_cons, List.length_nil, Nat.zero_add, List.drop_succ_cons, List.drop_zero, ih]
      rfl
    · rw [Lib.count_cons_ne _ _ _ hc]
      have hd : dbl (c :: r) = c :: dbl r := by simp [dbl, dq, hc]
      rw [hd, ← ih]
      cases hk : Lib.count r [39] with
      | zero => rfl
      | succ k =>
        obtain ⟨i, hi⟩ := Lib.index_of_count (s := r) (old := [39]) (by omega)
        have hi' : Lib.index (c :: r) [39] = ((i + 1 : Nat) : Int) := by
          unfold Lib.index
          rw [if_neg (by simp; exact fun h => hc h.symm), hi]
          have : ((i : Int) == -1) = false := by rw [beq_eq_false_iff_ne]; omega
          simp [this]
        rw [Lib.replaceK_hit _ _ _ _ (i + 1) hi', Lib.replaceK_hit _ _ _ _ i hi]
        simp [Nat.add_right_comm]

/-- One upper-case hex digit. -/
def hex (n : Nat) : UInt8 := if n < 10 then UInt8.ofNat (48 + n) else UInt8.ofNat (55 + n)

/-- How quoteString writes one byte in an escape string. -/
def esc (c : UInt8) : List UInt8 :=
  if c = 92 ∨ c = 39 then [92, c] else if c = 10 then [92, 110] else if c = 9 then [92, 116] else if c = 13 then [92, 114] else if c = 8 then [92, 98] else if c = 12 then [92, 102]
  else if c.toNat < 32 then [92, 120, hex (c.toNat / 16), hex (c.toNat % 16)] else [c]
def escs (l : List UInt8) : List UInt8 := l.flatMap esc

theorem esc_len (c : UInt8) : 1 ≤ (esc c).length ∧ (esc c).length ≤ 4 := by
  unfold esc
  repeat' split
  all_goals simp
theorem dq_len (c : UInt8) : 1 ≤ (dq c).length ∧ (dq c).length ≤ 4 := by
  unfold dq
  split <;> simp

theorem flat_le (f : UInt8 → List UInt8) (hf : ∀ c, 1 ≤ (f c).length ∧ (f c).length ≤ 4) (l : List UInt8) : (l.flatMap f).length ≤ 4 * l.length := by
  induction l with
  | nil => simp
  | cons c r ih => have := hf c; rw [List.flatMap_cons, List.length_append, List.length_cons]; omega

/-- The place in the written text at which byte k's writing begins. -/
def posOf (f : UInt8 → List UInt8) (pre : Nat) (v : List UInt8) (k : Nat) : Nat := pre + ((v.take k).flatMap f).length

theorem posOf_zero (f : UInt8 → List UInt8) (pre : Nat) (v : List UInt8) : posOf f pre v 0 = pre := by simp [posOf]
theorem posOf_succ (f : UInt8 → List UInt8) (pre : Nat) (v : List UInt8) (k : Nat) (h : k < v.length) : posOf f pre v (k + 1) = posOf f pre v k + (f v[k]).length := by
  unfold posOf
  rw [List.take_succ_eq_append_getElem h, List.flatMap_append, List.length_append]
  simp [Nat.add_assoc]
theorem posOf_end (f : UInt8 → List UInt8) (pre : Nat) (v : List UInt8) : posOf f pre v v.length = pre + (v.flatMap f).length := by
  unfold posOf
  rw [List.take_length]

/-- The bytes of byte k's writing, where they stand in the text. -/
theorem at_pos (f : UInt8 → List UInt8) (pre suf v : List UInt8) (k : Nat) (h : k < v.length) (j : Nat) (hj : j < (f v[k]).length) :
    (pre ++ v.flatMap f ++ suf)[posOf f pre.length v k + j]? = some ((f v[k])[j]) := by
  have hv : v = v.take k ++ v[k] :: v.drop (k + 1) := by
    rw [← List.drop_eq_getElem_cons h, List.take_append_drop]
  have hf : v.flatMap f = (v.take k ++ v[k] :: v.drop (k + 1)).flatMap f := congrArg (fun l => l.flatMap f) hv
  rw [List.flatMap_append, List.flatMap_cons] at hf
  rw [hf]
  unfold posOf
  rw [← List.append_assoc, ← List.append_assoc, List.append_assoc _ _ suf, List.append_assoc _ _ (_ ++ suf)]
  rw [← List.length_append, List.getElem?_append_right (by omega), Nat.add_sub_cancel_left, List.getElem?_append_left hj, List.getElem?_eq_getElem hj]

theorem bt_list (s : ByteArray) (k : Nat) (c : UInt8) (h : s.data.toList[k]? = some c) : bt s k = (c.toNat : Int) := by
  have hk : k < s.size := by
    have := (List.getElem?_eq_some_iff.1 h).1
    simpa using this
  unfold bt
  rw [dif_pos hk]
  rw [Array.getElem?_toList, Array.getElem?_eq_getElem (by exact hk)] at h
  have := Option.some.inj h
  rw [← this]
  rfl
end Go.Proofs.Qxb6606097aDoor.Pl
