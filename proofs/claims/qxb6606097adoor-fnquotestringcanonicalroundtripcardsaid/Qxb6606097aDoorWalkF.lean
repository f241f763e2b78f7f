import Derived.Test.Qxb6606097aDoorWalkE
set_option linter.unusedSimpArgs false
set_option linter.unusedVariables false
namespace Go.Proofs.Qxb6606097aDoor
open Go.RowKit Go.PlainAid

theorem ret_hex {a b : Int} (h : a = b) : Ending.returned (.tuple #[.int .u8 a, .bool true]) = .returned (.tuple #[.int .u8 b, .bool true]) := by rw [h]

set_option maxHeartbeats 400000 in
theorem hex_any (x n : Int) (w : World) (hn : 0 ≤ n) (h : (x = 48 + n ∧ n < 10) ∨ (x = 55 + n ∧ 10 ≤ n ∧ n < 16)) :
    Calls Tryd.prog 19 #[.int .u8 x] w fun e w' => e = .returned (.tuple #[.int .u8 n, .bool true]) ∧ w' = w := by
  rcases h with ⟨hx, h1⟩ | ⟨hx, h1, h2⟩
  · have HX := hid hx
    have b1 : 48 ≤ x := by omega
    have b2 : x ≤ 57 := by omega
    clear hx
    go_enter Tryd.func19, Tryd.ntmps19
    go_wp2
    go_ret2
    exact ⟨ret_hex (by have := HX.out; omega), rfl⟩
  · have HX := hid hx
    have b1 : 65 ≤ x := by omega
    have b2 : x ≤ 70 := by omega
    clear hx
    go_enter Tryd.func19, Tryd.ntmps19
    go_wp2
    go_ret2
    exact ⟨ret_hex (by have := HX.out; omega), rfl⟩

theorem hex_val (n : Nat) (h : n < 16) : (((Pl.hex n).toNat : Int) = 48 + n ∧ (n : Int) < 10) ∨ (((Pl.hex n).toNat : Int) = 55 + n ∧ (10 : Int) ≤ n ∧ (n : Int) < 16) := by
  have : ∀ m : Fin 16, (((Pl.hex m.val).toNat : Int) = 48 + m.val ∧ (m.val : Int) < 10) ∨ (((Pl.hex m.val).toNat : Int) = 55 + m.val ∧ (10 : Int) ≤ m.val ∧ (m.val : Int) < 16) := by decide
  exact this ⟨n, h⟩

/-- A two-byte escape. -/
def Two (s q : ByteArray) (p : Nat → Nat) (k : Nat) (c e : Int) : Prop := bt s k = c ∧ bt q (p k) = 92 ∧ bt q (p k + 1) = e ∧ p (k + 1) = p k + 2
/-- What the reader meets at byte k of the escape writing. -/
def ERound (s q : ByteArray) (p : Nat → Nat) (k : Nat) : Prop :=
  Two s q p k 92 92 ∨ Two s q p k 39 39 ∨ Two s q p k 10 110 ∨ Two s q p k 9 116 ∨ Two s q p k 13 114 ∨ Two s q p k 8 98 ∨ Two s q p k 12 102 ∨
  (bt s k < 32 ∧ bt s k ≠ 10 ∧ bt s k ≠ 9 ∧ bt s k ≠ 13 ∧ bt s k ≠ 8 ∧ bt s k ≠ 12 ∧ bt q (p k) = 92 ∧ bt q (p k + 1) = 120 ∧
    (∀ w, Calls Tryd.prog 19 #[.int .u8 (bt q (p k + 2))] w fun e w' => e = .returned (.tuple #[.int .u8 (bt s k / 16), .bool true]) ∧ w' = w) ∧
    (∀ w, Calls Tryd.prog 19 #[.int .u8 (bt q (p k + 3))] w fun e w' => e = .returned (.tuple #[.int .u8 (bt s k % 16), .bool true]) ∧ w' = w) ∧ p (k + 1) = p k + 4) ∨
  (32 ≤ bt s k ∧ bt s k ≠ 39 ∧ bt s k ≠ 92 ∧ bt q (p k) = bt s k ∧ p (k + 1) = p k + 1)

theorem two_of (s : ByteArray) (k : Nat) (h : k < s.size) (c e : UInt8) (hc : bt s k = (c.toNat : Int)) (he : Pl.esc c = [92, e]) : Two s (esB s) (pe s) k (c.toNat : Int) (e.toNat : Int) := by
  have hs := bt_eq s k h c hc
  have hd : Pl.esc (s[k]'h) = [92, e] := by rw [hs]; exact he
  refine ⟨hc, pe_at s k h 0 92 (by rw [hd]; rfl), pe_at s k h 1 e (by rw [hd]; rfl), ?_⟩
  rw [pe_succ s k h, hd]; rfl

theorem pe_round (s : ByteArray) (k : Nat) (h : k < s.size) : ERound s (esB s) (pe s) k := by
  unfold ERound
  by_cases h92 : bt s k = 92
  · exact Or.inl (two_of s k h 92 92 h92 rfl)
  refine Or.inr ?_
  by_cases h39 : bt s k = 39
  · exact Or.inl (two_of s k h 39 39 h39 rfl)
  refine Or.inr ?_
  by_cases h10 : bt s k = 10
  · exact Or.inl (two_of s k h 10 110 h10 rfl)
  refine Or.inr ?_
  by_cases h9 : bt s k = 9
  · exact Or.inl (two_of s k h 9 116 h9 rfl)
  refine Or.inr ?_
  by_cases h13 : bt s k = 13
  · exact Or.inl (two_of s k h 13 114 h13 rfl)
  refine Or.inr ?_
  by_cases h8 : bt s k = 8
  · exact Or.inl (two_of s k h 8 98 h8 rfl)
  refine Or.inr ?_
  by_cases h12 : bt s k = 12
  · exact Or.inl (two_of s k h 12 102 h12 rfl)
  refine Or.inr ?_
  have n92 := bt_ne s k h 92 h92
  have n39 := bt_ne s k h 39 h39
  have n10 := bt_ne s k h 10 h10
  have n9 := bt_ne s k h 9 h9
  have n13 := bt_ne s k h 13 h13
  have n8 := bt_ne s k h 8 h8
  have n12 := bt_ne s k h 12 h12
  have hcn : bt s k = ((s[k]'h).toNat : Int) := (get_bt s k h).symm
  by_cases h32 : bt s k < 32
  · left
    have hd : Pl.esc (s[k]'h) = [92, 120, Pl.hex ((s[k]'h).toNat / 16), Pl.hex ((s[k]'h).toNat % 16)] := by
      unfold Pl.esc
      rw [if_neg (by simp [n92, n39]), if_neg n10, if_neg n9, if_neg n13, if_neg n8, if_neg n12, if_pos (by omega)]
    have a2 := pe_at s k h 2 _ (by rw [hd]; rfl)
    have a3 := pe_at s k h 3 _ (by rw [hd]; rfl)
    refine ⟨h32, h10, h9, h13, h8, h12, pe_at s k h 0 92 (by rw [hd]; rfl), pe_at s k h 1 120 (by rw [hd]; rfl), fun w => ?_, fun w => ?_, ?_⟩
    · rw [a2]
      refine hex_any _ _ w (by omega) ?_
      have e : bt s k / 16 = (((s[k]'h).toNat / 16 : Nat) : Int) := by rw [hcn]; omega
      rw [e]
      exact hex_val _ (by omega)
    · rw [a3]
      refine hex_any _ _ w (by omega) ?_
      have e : bt s k % 16 = (((s[k]'h).toNat % 16 : Nat) : Int) := by rw [hcn]; omega
      rw [e]
      exact hex_val _ (by omega)
    · rw [pe_succ s k h, hd]; rfl
  · right
    have hd : Pl.esc (s[k]'h) = [s[k]'h] := by
      unfold Pl.esc
      rw [if_neg (by simp [n92, n39]), if_neg n10, if_neg n9, if_neg n13, if_neg n8, if_neg n12, if_neg (by omega)]
    refine ⟨by omega, h39, h92, ?_, ?_⟩
    · rw [hcn]; exact pe_at s k h 0 (s[k]'h) (by rw [hd]; rfl)
    · rw [pe_succ s k h, hd]; rfl
end Go.Proofs.Qxb6606097aDoor
