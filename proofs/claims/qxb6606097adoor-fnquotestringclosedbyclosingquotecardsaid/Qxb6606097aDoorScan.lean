import Derived.Test.Qxb6606097aDoorClose
import Derived.Test.Qxb6606097aDoorWalkD
set_option linter.unusedSimpArgs false
set_option linter.unusedVariables false
namespace Go.Proofs.Qxb6606097aDoor
open Go.RowKit Go.PlainAid

theorem app_left (q u : ByteArray) (j : Nat) (h : j < q.size) : bt (q ++ u) j = bt q j := by
  have h1 : q.data.toList[j]? = some (q[j]'h) := by rw [Array.getElem?_toList]; exact Array.getElem?_eq_getElem h
  rw [← get_bt q j h]
  apply Pl.bt_list
  rw [ByteArray.data_append, Array.toList_append, List.getElem?_append_left (by rw [len_data]; exact h)]
  exact h1
theorem app_right (q u : ByteArray) (j : Nat) (h : j < u.size) : bt (q ++ u) (q.size + j) = bt u j := by
  have h1 : u.data.toList[j]? = some (u[j]'h) := by rw [Array.getElem?_toList]; exact Array.getElem?_eq_getElem h
  rw [← get_bt u j h]
  apply Pl.bt_list
  rw [ByteArray.data_append, Array.toList_append, List.getElem?_append_right (by rw [len_data]; omega), len_data, Nat.add_sub_cancel_left]
  exact h1

theorem scan_plain (s u : ByteArray) (hctl : Pl.hasCtl s.data.toList = false) : ScanP (plB s ++ u) (pp s s.size) (fun i => ∃ k, k ≤ s.size ∧ i = pp s k) := by
  have le := pp_le s
  have hE := pp_end s
  have key : ∀ d k, k ≤ s.size → s.size - k = d → ∃ q, pp s k + q ≤ pp s s.size ∧ (∀ j, j < q → bt (plB s ++ u) (pp s k + j) ≠ 39) ∧ bt (plB s ++ u) (pp s k + q) = 39 ∧
      (pp s k + q = pp s s.size ∨ (pp s k + q + 2 ≤ pp s s.size ∧ bt (plB s ++ u) (pp s k + q + 1) = 39 ∧ ∃ k', k' ≤ s.size ∧ pp s k + q + 2 = pp s k')) := by
    intro d
    induction d with
    | zero =>
      intro k hk hd
      obtain rfl : k = s.size := by omega
      refine ⟨0, by omega, fun j hj => by omega, ?_, Or.inl rfl⟩
      rw [Nat.add_zero, app_left _ _ _ (by omega)]
      exact plB_last s
    | succ d ih =>
      intro k hk hd
      have hlt : k < s.size := by omega
      have l1 := le (k + 1)
      obtain ⟨_, ⟨e1, e2, e3, e4⟩ | ⟨e1, e2, e4⟩⟩ := pp_round s hctl k hlt
      · refine ⟨0, by omega, fun j hj => by omega, ?_, Or.inr ⟨by omega, ?_, k + 1, hlt, by omega⟩⟩
        · rw [Nat.add_zero, app_left _ _ _ (by omega)]; exact e2
        · rw [Nat.add_zero, app_left _ _ _ (by omega)]; exact e3
      · obtain ⟨q, h1, h2, h3, h4⟩ := ih (k + 1) hlt (by omega)
        rw [e4] at h1 h2 h3 h4
        refine ⟨q + 1, by omega, ?_, by rw [show pp s k + (q + 1) = pp s k + 1 + q by omega]; exact h3, by rw [show pp s k + (q + 1) = pp s k + 1 + q by omega]; exact h4⟩
        intro j hj
        cases j with
        | zero => rw [Nat.add_zero, app_left _ _ _ (by omega), e2]; exact e1
        | succ j => rw [show pp s k + (j + 1) = pp s k + 1 + j by omega]; exact h2 j (by omega)
  rintro i ⟨k, hk, rfl⟩
  exact key _ k hk rfl

/-- Neither quote nor backslash. -/
def Ns (x : Int) : Prop := x ≠ 39 ∧ x ≠ 92

theorem hex_ns (n : Nat) (h : n < 16) : Ns ((Pl.hex n).toNat : Int) := by
  have : ∀ m : Fin 16, ((Pl.hex m.val).toNat : Int) ≠ 39 ∧ ((Pl.hex m.val).toNat : Int) ≠ 92 := by decide
  exact this ⟨n, h⟩

theorem esc_form (c : UInt8) : (Pl.esc c = [c] ∧ Ns (c.toNat : Int)) ∨ (∃ x, Pl.esc c = [92, x]) ∨ (∃ x a b, Pl.esc c = [92, x, a, b] ∧ Ns (a.toNat : Int) ∧ Ns (b.toNat : Int)) := by
  unfold Pl.esc
  split
  · exact Or.inr (Or.inl ⟨_, rfl⟩)
  · rename_i h
    split
    · exact Or.inr (Or.inl ⟨_, rfl⟩)
    split
    · exact Or.inr (Or.inl ⟨_, rfl⟩)
    split
    · exact Or.inr (Or.inl ⟨_, rfl⟩)
    split
    · exact Or.inr (Or.inl ⟨_, rfl⟩)
    split
    · exact Or.inr (Or.inl ⟨_, rfl⟩)
    split
    · exact Or.inr (Or.inr ⟨_, _, _, rfl, hex_ns _ (by omega), hex_ns _ (by omega)⟩)
    · refine Or.inl ⟨rfl, ?_, ?_⟩
      · intro e
        exact h (Or.inr (UInt8.toNat_inj.1 (by show c.toNat = 39; omega)))
      · intro e
        exact h (Or.inl (UInt8.toNat_inj.1 (by show c.toNat = 92; omega)))

theorem scan_esc (s u : ByteArray) : ScanE (esB s ++ u) (pe s s.size) (fun i => ∃ k, k ≤ s.size ∧ i ≤ pe s k ∧ ∀ j, i ≤ j → j < pe s k → Ns (bt (esB s ++ u) j)) := by
  have le := pe_le s
  have hE := pe_end s
  have key : ∀ d k, k ≤ s.size → s.size - k = d → ∃ q, pe s k + q ≤ pe s s.size ∧ (∀ j, j < q → Ns (bt (esB s ++ u) (pe s k + j))) ∧
      ((pe s k + q = pe s s.size ∧ bt (esB s ++ u) (pe s k + q) = 39) ∨ (pe s k + q + 2 ≤ pe s s.size ∧ bt (esB s ++ u) (pe s k + q) = 92 ∧
        ∃ k', k' ≤ s.size ∧ pe s k + q + 2 ≤ pe s k' ∧ ∀ j, pe s k + q + 2 ≤ j → j < pe s k' → Ns (bt (esB s ++ u) j))) := by
    intro d
    induction d with
    | zero =>
      intro k hk hd
      obtain rfl : k = s.size := by omega
      refine ⟨0, by omega, fun j hj => by omega, Or.inl ⟨rfl, ?_⟩⟩
      rw [Nat.add_zero, app_left _ _ _ (by omega)]
      exact esB_last s
    | succ d ih =>
      intro k hk hd
      have hlt : k < s.size := by omega
      have l1 := le (k + 1)
      have hsucc := pe_succ s k hlt
      rcases esc_form (s[k]'hlt) with ⟨hf, hns⟩ | ⟨x, hf⟩ | ⟨x, a, b, hf, ha, hb⟩
      · have e4 : pe s (k + 1) = pe s k + 1 := by rw [hsucc, hf]; rfl
        obtain ⟨q, h1, h2, h3⟩ := ih (k + 1) hlt (by omega)
        rw [e4] at h1 h2 h3
        refine ⟨q + 1, by omega, ?_, by rw [show pe s k + (q + 1) = pe s k + 1 + q by omega]; exact h3⟩
        intro j hj
        cases j with
        | zero =>
          rw [Nat.add_zero, app_left _ _ _ (by omega)]
          have := pe_at s k hlt 0 (s[k]'hlt) (by rw [hf]; rfl)
          rw [Nat.add_zero] at this
          rw [this]
          exact hns
        | succ j => rw [show pe s k + (j + 1) = pe s k + 1 + j by omega]; exact h2 j (by omega)
      · have e4 : pe s (k + 1) = pe s k + 2 := by rw [hsucc, hf]; rfl
        refine ⟨0, by omega, fun j hj => by omega, Or.inr ⟨by omega, ?_, k + 1, hlt, by omega, fun j h1 h2 => by omega⟩⟩
        rw [Nat.add_zero, app_left _ _ _ (by omega)]
        exact pe_at s k hlt 0 92 (by rw [hf]; rfl)
      · have e4 : pe s (k + 1) = pe s k + 4 := by rw [hsucc, hf]; rfl
        refine ⟨0, by omega, fun j hj => by omega, Or.inr ⟨by omega, ?_, k + 1, hlt, by omega, fun j h1 h2 => ?_⟩⟩
        · rw [Nat.add_zero, app_left _ _ _ (by omega)]
          exact pe_at s k hlt 0 92 (by rw [hf]; rfl)
        · rw [app_left _ _ _ (by omega)]
          have : j = pe s k + 2 ∨ j = pe s k + 3 := by omega
          rcases this with rfl | rfl
          · rw [pe_at s k hlt 2 a (by rw [hf]; rfl)]; exact ha
          · rw [pe_at s k hlt 3 b (by rw [hf]; rfl)]; exact hb
  rintro i ⟨k, hk, hik, hns⟩
  obtain ⟨q, h1, h2, h3⟩ := key _ k hk rfl
  have e : i + (pe s k - i + q) = pe s k + q := by omega
  refine ⟨pe s k - i + q, by omega, fun j hj => ?_, ?_⟩
  · by_cases hj2 : i + j < pe s k
    · exact hns (i + j) (by omega) hj2
    · have := h2 (i + j - pe s k) (by omega)
      rw [show pe s k + (i + j - pe s k) = i + j by omega] at this
      exact this
  · rw [e]
    exact h3
end Go.Proofs.Qxb6606097aDoor
