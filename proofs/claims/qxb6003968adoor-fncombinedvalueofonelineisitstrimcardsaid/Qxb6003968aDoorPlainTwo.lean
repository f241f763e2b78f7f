import Derived.Test.Qxb6003968aDoorPlain
import Derived.Test.Qxb6003968aDoorWalkC
set_option linter.unusedSimpArgs false
set_option linter.unusedVariables false
namespace Go.Proofs.Qxb6003968aDoor
open Go

theorem contains_ws (c : UInt8) : ([32, 9] : List UInt8).contains c = wsB c := by
  unfold wsB
  simp [List.contains, List.elem]
  cases h1 : c == 32 <;> cases h2 : c == 9 <;> simp

/-- What dropWhile leaves: a tail whose first byte fails the test, behind bytes that pass it. -/
theorem dropWhile_cut (p : UInt8 → Bool) (l : List UInt8) : ∃ k, k ≤ l.length ∧ l.dropWhile p = l.drop k ∧ (l.take k).all p = true ∧ (∀ x, (l.drop k).head? = some x → p x = false) := by
  induction l with
  | nil => exact ⟨0, by simp, by simp, by simp, by simp⟩
  | cons x r ih =>
    cases hx : p x with
    | true =>
      obtain ⟨k, h1, h2, h3, h4⟩ := ih
      exact ⟨k + 1, by simpa using h1, by simp [List.dropWhile, hx, h2], by simp [hx, h3], by simpa using h4⟩
    | false => exact ⟨0, by simp, by simp [List.dropWhile, hx], by simp, by simp [hx]⟩

theorem trim_cut (l : List UInt8) : ∃ k, k + (Lib.trimS l [32, 9]).length ≤ l.length ∧ (l.drop k).take (Lib.trimS l [32, 9]).length = Lib.trimS l [32, 9] ∧ (l.take k).all wsB = true ∧ (l.drop (k + (Lib.trimS l [32, 9]).length)).all wsB = true ∧
    (∀ x, (Lib.trimS l [32, 9]).head? = some x → wsB x = false) ∧ (∀ x, (Lib.trimS l [32, 9]).getLast? = some x → wsB x = false) := by
  have e : (fun c => ([32, 9] : List UInt8).contains c) = wsB := funext contains_ws
  have hR : ∃ m, m ≤ l.length ∧ Lib.trimRightS l [32, 9] = l.take m ∧ (l.drop m).all wsB = true ∧ (∀ x, (l.take m).getLast? = some x → wsB x = false) := by
    unfold Lib.trimRightS
    rw [e]
    obtain ⟨k, h1, h2, h3, h4⟩ := dropWhile_cut wsB l.reverse
    rw [List.length_reverse] at h1
    refine ⟨l.length - k, by omega, ?_, ?_, ?_⟩
    · rw [h2, List.drop_reverse, List.reverse_reverse]
    · rw [List.take_reverse] at h3
      simpa using h3
    · intro x hx
      apply h4
      rw [List.drop_reverse, List.head?_reverse]
      exact hx
  obtain ⟨m, hm, r1, r2, r3⟩ := hR
  obtain ⟨k, h1, h2, h3, h4⟩ := dropWhile_cut wsB (l.take m)
  have ht : Lib.trimS l [32, 9] = (l.take m).drop k := by
    unfold Lib.trimS
    rw [r1]
    unfold Lib.trimLeftS
    rw [e, h2]
  have hlen : (Lib.trimS l [32, 9]).length = m - k := by rw [ht]; simp; omega
  have hk : k ≤ m := by simp at h1; omega
  rw [hlen]
  refine ⟨k, by omega, ?_, ?_, ?_, ?_, ?_⟩
  · rw [ht, List.drop_take]
  · rw [List.take_take, Nat.min_eq_left hk] at h3; exact h3
  · rw [show k + (m - k) = m by omega]; exact r2
  · rw [ht]; exact h4
  · intro x hx
    rw [ht] at hx
    apply r3
    rw [List.getLast?_drop] at hx
    split at hx
    · cases hx
    · exact hx
end Go.Proofs.Qxb6003968aDoor
