import Derived.Test.Qxb6614137aDoorWalkA
import Derived.Lib.Replace
set_option linter.unusedSimpArgs false
set_option linter.unusedVariables false
namespace Go.Proofs.Qxb6614137aDoor
open Go.RowKit Go.PlainAid

/-- A quote is written twice. -/
def dq (c : UInt8) : List UInt8 := if c = 34 then [34, 34] else [c]
def dbl (l : List UInt8) : List UInt8 := l.flatMap dq

theorem replace_dbl (l : List UInt8) : Lib.replaceAll l [34] [34, 34] = dbl l := by
  have e : Lib.replaceAll l [34] [34, 34] = Lib.replaceK [34] [34, 34] (Lib.count l [34]) l := by
    unfold Lib.replaceAll Lib.replace Lib.replaceNum
    rw [if_neg (by decide), if_pos (Or.inl (by decide))]
  rw [e]
  clear e
  induction l with
  | nil => rfl
  | cons c r ih =>
    by_cases hc : c = 34
    · subst hc
      rw [Lib.count_cons_eq, Nat.add_comm, Lib.replaceK_hit [34] [34, 34] _ _ 0 (by unfold Lib.index; rw [if_pos (by simp)]; rfl)]
      simp only [List.take_zero, List.nil_append, List.length_cons, List.length_nil, Nat.zero_add, List.drop_succ_cons, List.drop_zero, ih]
      rfl
    · rw [Lib.count_cons_ne _ _ _ hc]
      have hd : dbl (c :: r) = c :: dbl r := by simp [dbl, dq, hc]
      rw [hd, ← ih]
      cases hk : Lib.count r [34] with
      | zero => rfl
      | succ k =>
        obtain ⟨i, hi⟩ := Lib.index_of_count (s := r) (old := [34]) (by omega)
        have hi' : Lib.index (c :: r) [34] = ((i + 1 : Nat) : Int) := by
          unfold Lib.index
          rw [if_neg (by simp; exact fun h => hc h.symm), hi]
          have : ((i : Int) == -1) = false := by rw [beq_eq_false_iff_ne]; omega
          simp [this]
        rw [Lib.replaceK_hit _ _ _ _ (i + 1) hi', Lib.replaceK_hit _ _ _ _ i hi]
        simp [Nat.add_right_comm]

/-- The place in the written text at which byte k's writing begins. -/
def posOf (f : UInt8 → List UInt8) (pre : Nat) (v : List UInt8) (k : Nat) : Nat := pre + ((v.take k).flatMap f).length

theorem posOf_zero (f : UInt8 → List UInt8) (pre : Nat) (v : List UInt8) : posOf f pre v 0 = pre := by simp [posOf]
theorem posOf_succ (f : UInt8 → List UInt8) (pre : Nat) (v : List UInt8) (k : Nat) (h : k < v.length) : posOf f pre v (k + 1) = posOf f pre v k + (f v[k]).length := by
  unfold posOf
  rw [List.take_succ_eq_append_getElem h, List.flatMap_append, List.length_append]
  simp [Nat.add_assoc]
theorem posOf_end (f : UInt8 → List UInt8) (pre : Nat) (v : List UInt8) : posOf f pre v v.length = pre + (v.flatMap f).length := by
  unfold posOf
  rw [List.take_length]

/-- The bytes of byte k's writing, where they stand in the text. -/
theorem at_pos (f : UInt8 → List UInt8) (pre suf v : List UInt8) (k : Nat) (h : k < v.length) (j : Nat) (hj : j < (f v[k]).length) :
    (pre ++ v.flatMap f ++ suf)[posOf f pre.length v k + j]? = some ((f v[k])[j]) := by
  have hv : v = v.take k ++ v[k] :: v.drop (k + 1) := by
    rw [← List.drop_eq_getElem_cons h, List.take_append_drop]
  have hf : v.flatMap f = (v.take k ++ v[k] :: v.drop (k + 1)).flatMap f := congrArg (fun l => l.flatMap f) hv
  rw [List.flatMap_append, List.flatMap_cons] at hf
  rw [hf]
  unfold posOf
  rw [← List.append_assoc, ← List.append_assoc, List.append_assoc _ _ suf, List.append_assoc _ _ (_ ++ suf)]
  rw [← List.length_append, List.getElem?_append_right (by omega), Nat.add_sub_cancel_left, List.getElem?_append_left hj, List.getElem?_eq_getElem hj]

theorem bt_list (s : ByteArray) (k : Nat) (c : UInt8) (h : s.data.toList[k]? = some c) : bt s k = (c.toNat : Int) := by
  have hk : k < s.size := by
    have := (List.getElem?_eq_some_iff.1 h).1
    simpa using this
  unfold bt
  rw [dif_pos hk]
  rw [Array.getElem?_toList, Array.getElem?_eq_getElem (by exact hk)] at h
  have := Option.some.inj h
  rw [← this]
  rfl

/-- A cell as it is written. -/
def enc (s : ByteArray) : List UInt8 := if sp s then 34 :: (dbl s.data.toList ++ [34]) else s.data.toList
/-- The separator ahead of cell k. -/
def sepB (k : Nat) : List UInt8 := if 0 < k then [44] else []
/-- What is written behind k cells. -/
def Wr (S : Nat → ByteArray) : Nat → List UInt8
  | 0 => []
  | k + 1 => Wr S k ++ (sepB k ++ enc (S k))
/-- Where cell k begins. -/
def pos (S : Nat → ByteArray) (k : Nat) : Nat := (Wr S k ++ sepB k).length
/-- Where it ends. -/
def fin (S : Nat → ByteArray) (k : Nat) : Nat := pos S k + (enc (S k)).length
/-- The byte behind cell k of n. -/
def nxt (n k : Nat) : UInt8 := if k + 1 < n then 44 else 10

theorem Wr_split (S : Nat → ByteArray) (k : Nat) : ∀ m, Wr S (k + 1 + m) ++ [10] = Wr S (k + 1) ++ (nxt (k + 1 + m) k :: ((Wr S (k + 1 + m) ++ [10]).drop ((Wr S (k + 1)).length + 1)))
  | 0 => by
    have : nxt (k + 1 + 0) k = 10 := by unfold nxt; rw [if_neg (by omega)]
    rw [this, Nat.add_zero, List.drop_eq_nil_of_le (by simp)]
  | m + 1 => by
    have hn : nxt (k + 1 + (m + 1)) k = 44 := by unfold nxt; rw [if_pos (by omega)]
    have key : ∃ r, Wr S (k + 1 + (m + 1)) = Wr S (k + 1) ++ (44 :: r) := by
      clear hn
      induction m with
      | zero => exact ⟨enc (S (k + 1)), by show Wr S (k + 1) ++ (sepB (k + 1) ++ enc (S (k + 1))) = _; unfold sepB; rw [if_pos (by omega)]; rfl⟩
      | succ m ih =>
        obtain ⟨r, hr⟩ := ih
        refine ⟨r ++ (sepB (k + 1 + (m + 1)) ++ enc (S (k + 1 + (m + 1)))), ?_⟩
        show Wr S (k + 1 + (m + 1)) ++ _ = _
        rw [hr]
        simp
    obtain ⟨r, hr⟩ := key
    rw [hn, hr]
    simp [List.drop_append]

/-- The text of n cells, cut at cell k. -/
theorem out_split (S : Nat → ByteArray) (n k : Nat) (hk : k < n) : ∃ r, Wr S n ++ [10] = (Wr S k ++ sepB k) ++ (enc (S k) ++ (nxt n k :: r)) ∧ (k + 1 = n → r = []) := by
  obtain ⟨m, rfl⟩ : ∃ m, n = k + 1 + m := ⟨n - (k + 1), by omega⟩
  refine ⟨(Wr S (k + 1 + m) ++ [10]).drop ((Wr S (k + 1)).length + 1), (Wr_split S k m).trans ?_, fun h => ?_⟩
  · show (Wr S k ++ (sepB k ++ enc (S k))) ++ _ = _
    simp
  · obtain rfl : m = 0 := by omega
    rw [Nat.add_zero]
    exact List.drop_eq_nil_of_le (by simp)

theorem pos_next (S : Nat → ByteArray) (k : Nat) : pos S (k + 1) = fin S k + 1 := by
  unfold fin pos
  show ((Wr S k ++ (sepB k ++ enc (S k))) ++ sepB (k + 1)).length = _
  have : sepB (k + 1) = [44] := by unfold sepB; rw [if_pos (by omega)]
  rw [this]
  simp
  omega
theorem pos_zero (S : Nat → ByteArray) : pos S 0 = 0 := rfl

theorem O_size (S : Nat → ByteArray) (n : Nat) (O : ByteArray) (hO : O.data.toList = Wr S n ++ [10]) (k : Nat) (hk : k < n) : fin S k < O.size ∧ (k + 1 = n → fin S k + 1 = O.size) := by
  obtain ⟨r, h1, h2⟩ := out_split S n k hk
  have hl : O.size = (Wr S n ++ [10]).length := by rw [← hO, Array.length_toList]; rfl
  rw [h1] at hl
  have : O.size = fin S k + 1 + r.length := by
    rw [hl]; unfold fin pos; simp; omega
  exact ⟨by omega, fun h => by rw [this, h2 h]; rfl⟩

theorem O_next (S : Nat → ByteArray) (n : Nat) (O : ByteArray) (hO : O.data.toList = Wr S n ++ [10]) (k : Nat) (hk : k < n) : bt O (fin S k) = (nxt n k).toNat := by
  obtain ⟨r, h1, h2⟩ := out_split S n k hk
  apply bt_list
  rw [hO, h1, ← List.append_assoc, List.getElem?_append_right (by unfold fin pos; simp; omega)]
  have : fin S k - (Wr S k ++ sepB k ++ enc (S k)).length = 0 := by unfold fin pos; simp; omega
  rw [this]
  rfl

/-- A cell without quotes. -/
theorem O_plain (S : Nat → ByteArray) (n : Nat) (O : ByteArray) (hO : O.data.toList = Wr S n ++ [10]) (k : Nat) (hk : k < n) (hs : sp (S k) = false) (q : Nat) (hq : q < (S k).size) : bt O (pos S k + q) = bt (S k) q := by
  obtain ⟨r, h1, h2⟩ := out_split S n k hk
  have he : enc (S k) = (S k).data.toList := by unfold enc; rw [hs]; rfl
  have hl : (S k).data.toList.length = (S k).size := by rw [Array.length_toList]; rfl
  have hq' : q < (S k).data.toList.length := by omega
  rw [bt_list O (pos S k + q) ((S k).data.toList[q]) (by
    rw [hO, h1, he]
    unfold pos
    rw [List.getElem?_append_right (by omega), Nat.add_sub_cancel_left, List.getElem?_append_left hq', List.getElem?_eq_getElem hq'])]
  exact (bt_list (S k) q _ (List.getElem?_eq_getElem hq')).symm

/-- A cell in quotes: where the writing of its byte q begins. -/
def qp (S : Nat → ByteArray) (k q : Nat) : Nat := posOf dq (pos S k + 1) (S k).data.toList q
theorem fin_plain (S : Nat → ByteArray) (k : Nat) (hs : sp (S k) = false) : fin S k = pos S k + (S k).size := by
  unfold fin enc
  rw [hs]
  simp
theorem fin_quoted (S : Nat → ByteArray) (k : Nat) (hs : sp (S k) = true) : fin S k = qp S k (S k).size + 1 := by
  unfold fin enc qp
  rw [hs]
  have := posOf_end dq (pos S k + 1) (S k).data.toList
  have hl : (S k).data.toList.length = (S k).size := by rw [Array.length_toList]; rfl
  rw [hl] at this
  rw [this]
  simp [dbl]
  omega

theorem qp_zero (S : Nat → ByteArray) (k : Nat) : qp S k 0 = pos S k + 1 := by unfold qp; rw [posOf_zero]
theorem qp_le (S : Nat → ByteArray) (k q : Nat) (h : q ≤ (S k).size) : qp S k q ≤ qp S k (S k).size := by
  have hl : (S k).data.toList.length = (S k).size := by rw [Array.length_toList]; rfl
  obtain ⟨d, hd⟩ : ∃ d, q + d = (S k).size := ⟨(S k).size - q, by omega⟩
  induction d generalizing q with
  | zero => rw [← hd]; exact Nat.le_refl _
  | succ d ih =>
    have := posOf_succ dq (pos S k + 1) (S k).data.toList q (by omega)
    have := ih (q + 1) (by omega) (by omega)
    unfold qp at this ⊢
    omega

theorem O_open (S : Nat → ByteArray) (n : Nat) (O : ByteArray) (hO : O.data.toList = Wr S n ++ [10]) (k : Nat) (hk : k < n) (hs : sp (S k) = true) : bt O (pos S k) = 34 := by
  obtain ⟨r, h1, h2⟩ := out_split S n k hk
  have he : enc (S k) = 34 :: (dbl (S k).data.toList ++ [34]) := by unfold enc; rw [hs]; rfl
  exact bt_list O (pos S k) 34 (by rw [hO, h1, he]; unfold pos; rw [List.getElem?_append_right (Nat.le_refl _), Nat.sub_self]; rfl)

theorem O_form (S : Nat → ByteArray) (n : Nat) (O : ByteArray) (hO : O.data.toList = Wr S n ++ [10]) (k : Nat) (hk : k < n) (hs : sp (S k) = true) : ∃ r, O.data.toList = ((Wr S k ++ sepB k) ++ [34]) ++ (S k).data.toList.flatMap dq ++ (34 :: r) ∧ ((Wr S k ++ sepB k) ++ [34]).length = pos S k + 1 := by
  obtain ⟨r, h1, h2⟩ := out_split S n k hk
  have he : enc (S k) = 34 :: (dbl (S k).data.toList ++ [34]) := by unfold enc; rw [hs]; rfl
  refine ⟨nxt n k :: r, ?_, by unfold pos; simp; omega⟩
  rw [hO, h1, he]
  simp [dbl]

theorem O_close (S : Nat → ByteArray) (n : Nat) (O : ByteArray) (hO : O.data.toList = Wr S n ++ [10]) (k : Nat) (hk : k < n) (hs : sp (S k) = true) : bt O (qp S k (S k).size) = 34 := by
  obtain ⟨r, h1, h2⟩ := O_form S n O hO k hk hs
  have hl : (S k).data.toList.length = (S k).size := by rw [Array.length_toList]; rfl
  apply bt_list O _ 34
  have e : qp S k (S k).size = (((Wr S k ++ sepB k) ++ [34]) ++ (S k).data.toList.flatMap dq).length := by
    unfold qp
    rw [← hl, posOf_end, List.length_append, h2]
  rw [h1, e, List.getElem?_append_right (Nat.le_refl _), Nat.sub_self]
  rfl

theorem O_byte (S : Nat → ByteArray) (n : Nat) (O : ByteArray) (hO : O.data.toList = Wr S n ++ [10]) (k : Nat) (hk : k < n) (hs : sp (S k) = true) (q : Nat) (hq : q < (S k).size) :
    (bt (S k) q = 34 ∧ bt O (qp S k q) = 34 ∧ bt O (qp S k q + 1) = 34 ∧ qp S k (q + 1) = qp S k q + 2) ∨ (bt (S k) q ≠ 34 ∧ bt O (qp S k q) = bt (S k) q ∧ qp S k (q + 1) = qp S k q + 1) := by
  obtain ⟨r, h1, h2⟩ := O_form S n O hO k hk hs
  have hl : (S k).data.toList.length = (S k).size := by rw [Array.length_toList]; rfl
  have hq' : q < (S k).data.toList.length := by omega
  have hb := bt_list (S k) q _ (List.getElem?_eq_getElem hq')
  have hat : ∀ j (hj : j < (dq (S k).data.toList[q]).length), bt O (qp S k q + j) = ((dq (S k).data.toList[q])[j]).toNat := fun j hj => by
    apply bt_list
    rw [h1]
    unfold qp
    rw [← h2]
    exact at_pos dq _ _ _ q hq' j hj
  have hsucc := posOf_succ dq (pos S k + 1) (S k).data.toList q hq'
  by_cases hc : (S k).data.toList[q] = 34
  · left
    have hd : dq (S k).data.toList[q] = [34, 34] := by unfold dq; rw [if_pos hc]
    have a0 := hat 0 (by rw [hd]; simp)
    have a1 := hat 1 (by rw [hd]; simp)
    simp only [hd] at a0 a1
    refine ⟨by rw [hb, hc]; rfl, a0, a1, ?_⟩
    unfold qp
    rw [hsucc, hd]
    rfl
  · right
    have hd : dq (S k).data.toList[q] = [(S k).data.toList[q]] := by unfold dq; rw [if_neg hc]
    have a0 := hat 0 (by rw [hd]; simp)
    simp only [hd] at a0
    refine ⟨?_, by rw [hb]; exact a0, ?_⟩
    · rw [hb]
      intro h
      apply hc
      apply UInt8.toNat_inj.1
      have : ((S k).data.toList[q]).toNat = 34 := by omega
      rw [this]; rfl
    · unfold qp
      rw [hsucc, hd]
      rfl
end Go.Proofs.Qxb6614137aDoor
