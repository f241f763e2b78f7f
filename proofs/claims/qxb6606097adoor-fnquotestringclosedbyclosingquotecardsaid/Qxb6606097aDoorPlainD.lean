import Derived.Test.Qxb6606097aDoorPlain
set_option linter.unusedSimpArgs false
set_option linter.unusedVariables false
namespace Go.Proofs.Qxb6606097aDoor.Pl
open Go Go.PlainAid

/-- How many bytes a rune's encoding takes. -/
theorem enc_size (r : Nat) (h : Utf8.valid (r : Int) = true) : (Utf8.encode (r : Int)).size = if r < 0x80 then 1 else if r < 0x800 then 2 else if r < 0x10000 then 3 else 4 := by
  unfold Utf8.encode
  simp only [h, if_true, Int.toNat_natCast]
  repeat' split
  all_goals rfl

theorem enc_head (r : Nat) (h : Utf8.valid (r : Int) = true) (h1 : 128 ≤ r) (h2 : r < 2048) : Utf8.encode (r : Int) = ⟨#[UInt8.ofNat (0xC0 + r / 64), UInt8.ofNat (0x80 + r % 64)]⟩ := by
  unfold Utf8.encode
  simp only [h, if_true, Int.toNat_natCast]
  rw [if_neg (by omega), if_pos (by omega)]

/-- What decoding meets at a byte of 128 or more. -/
theorem dec_high (s : ByteArray) (i : Nat) (hb : 128 ≤ (s.get! i).toNat) :
    128 ≤ (Utf8.decode s i).1 ∧ (Utf8.decode s i).1 ≤ 1114111 ∧ 1 ≤ (Utf8.decode s i).2 ∧ (Utf8.decode s i).2 ≤ 4 ∧
    ((Utf8.decode s i).1 ≠ 65533 → Utf8.valid ((Utf8.decode s i).1 : Int) = true ∧
      (((Utf8.decode s i).2 = 2 ∧ (Utf8.decode s i).1 < 2048) ∨ ((Utf8.decode s i).2 = 3 ∧ 2048 ≤ (Utf8.decode s i).1 ∧ (Utf8.decode s i).1 < 65536) ∨ ((Utf8.decode s i).2 = 4 ∧ 65536 ≤ (Utf8.decode s i).1))) := by
  unfold Utf8.decode
  simp only [Nat.add_zero]
  rw [if_neg (by omega)]
  have one : 128 ≤ (Utf8.runeError, 1).1 ∧ (Utf8.runeError, 1).1 ≤ 1114111 ∧ 1 ≤ (Utf8.runeError, 1).2 ∧ (Utf8.runeError, 1).2 ≤ 4 ∧
      ((Utf8.runeError, 1).1 ≠ 65533 → Utf8.valid ((Utf8.runeError, 1).1 : Int) = true ∧
      (((Utf8.runeError, 1).2 = 2 ∧ (Utf8.runeError, 1).1 < 2048) ∨ ((Utf8.runeError, 1).2 = 3 ∧ 2048 ≤ (Utf8.runeError, 1).1 ∧ (Utf8.runeError, 1).1 < 65536) ∨ ((Utf8.runeError, 1).2 = 4 ∧ 65536 ≤ (Utf8.runeError, 1).1))) :=
    ⟨by decide, by decide, by decide, by decide, fun h => absurd rfl h⟩
  have hlt : ∀ k, (s.get! k).toNat < 256 := fun k => UInt8.toNat_lt _
  split
  · rename_i h2
    simp only [Bool.and_eq_true, beq_iff_eq, decide_eq_true_eq] at h2
    split
    · rename_i h3
      simp only
      have := hlt i
      refine ⟨h3, by omega, by omega, by omega, fun _ => ⟨?_, Or.inl ⟨trivial, by omega⟩⟩⟩
      unfold Utf8.valid
      simp
      omega
    · exact one
  · split
    · rename_i h2
      simp only [Bool.and_eq_true, beq_iff_eq, decide_eq_true_eq] at h2
      split
      · rename_i h3
        simp only [Bool.and_eq_true, decide_eq_true_eq] at h3
        simp only
        exact ⟨by omega, by omega, by omega, by omega, fun _ => ⟨h3.2, Or.inr (Or.inl ⟨trivial, h3.1, by omega⟩)⟩⟩
      · exact one
    · split
      · rename_i h2
        simp only [Bool.and_eq_true, beq_iff_eq, decide_eq_true_eq] at h2
        split
        · rename_i h3
          simp only [Bool.and_eq_true, decide_eq_true_eq] at h3
          simp only
          refine ⟨by omega, ?_, by omega, by omega, fun _ => ⟨h3.2, Or.inr (Or.inr ⟨trivial, h3.1⟩)⟩⟩
          have := h3.2
          unfold Utf8.valid at this
          simp at this
          omega
        · exact one
      · exact one
end Go.Proofs.Qxb6606097aDoor.Pl
