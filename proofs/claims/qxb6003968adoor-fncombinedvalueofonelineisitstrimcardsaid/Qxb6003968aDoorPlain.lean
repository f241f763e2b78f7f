import Derived.Lib.Join
import Derived.Lib.SlTrimSet
set_option linter.unusedSimpArgs false
set_option linter.unusedVariables false
namespace Go.Proofs.Qxb6003968aDoor.Pl
open Go

/-- The trimmed bytes of a line. -/
def tr (x : ByteArray) : List UInt8 := Lib.trimS x.data.toList [32, 9]
/-- The combined value's bytes. -/
def comb (xs : List ByteArray) : List UInt8 := Lib.join (xs.map tr) [44, 32]
/-- The sum of the lengths. -/
def tot : List ByteArray → Nat
  | [] => 0
  | x :: r => x.size + tot r

theorem tot_append (a b : List ByteArray) : tot (a ++ b) = tot a + tot b := by
  induction a with
  | nil => simp [tot]
  | cons x r ih => simp [tot, ih]; omega

theorem inter_cons2 (s x y : List UInt8) (r : List (List UInt8)) : s.intercalate (x :: y :: r) = x ++ s ++ s.intercalate (y :: r) := by
  simp [List.intercalate, List.intersperse]

theorem join_append (s : List UInt8) (a b : List (List UInt8)) (ha : a ≠ []) (hb : b ≠ []) : Lib.join (a ++ b) s = Lib.join a s ++ s ++ Lib.join b s := by
  induction a with
  | nil => exact absurd rfl ha
  | cons x r ih =>
    cases r with
    | nil =>
      cases b with
      | nil => exact absurd rfl hb
      | cons y t => simp [Lib.join, List.intercalate, List.intersperse]
    | cons y t =>
      have := ih (by simp)
      simp only [Lib.join] at this ⊢
      rw [List.cons_append, List.cons_append, inter_cons2, inter_cons2, ← List.cons_append, this]
      simp

theorem comb_append (a b : List ByteArray) (ha : a ≠ []) (hb : b ≠ []) : comb (a ++ b) = comb a ++ [44, 32] ++ comb b := by
  unfold comb
  rw [List.map_append]
  exact join_append _ _ _ (by simpa using ha) (by simpa using hb)

theorem dropWhile_le (p : UInt8 → Bool) (l : List UInt8) : (l.dropWhile p).length ≤ l.length := by
  induction l with
  | nil => simp
  | cons x r ih => simp only [List.dropWhile]; split <;> simp <;> omega

theorem tr_le (x : ByteArray) : (tr x).length ≤ x.size := by
  unfold tr Lib.trimS Lib.trimLeftS Lib.trimRightS
  refine Nat.le_trans (dropWhile_le _ _) ?_
  rw [List.length_reverse]
  refine Nat.le_trans (dropWhile_le _ _) ?_
  rw [List.length_reverse]
  exact Nat.le_refl _

theorem comb_le (xs : List ByteArray) : (comb xs).length ≤ 2 * xs.length + tot xs := by
  induction xs with
  | nil => simp [comb, Lib.join, List.intercalate]
  | cons x r ih =>
    cases r with
    | nil => have := tr_le x; simp [comb, Lib.join, List.intercalate, List.intersperse, tot]; omega
    | cons y t =>
      have h := comb_append [x] (y :: t) (by simp) (by simp)
      have h1 : comb [x] = tr x := by simp [comb, Lib.join, List.intercalate, List.intersperse]
      have := tr_le x
      rw [List.singleton_append] at h
      rw [h, h1]
      simp [tot] at ih ⊢
      omega

theorem comb_one (x : ByteArray) : comb [x] = tr x := by simp [comb, Lib.join, List.intercalate, List.intersperse]
theorem comb_nil : comb [] = [] := by simp [comb, Lib.join, List.intercalate]

end Go.Proofs.Qxb6003968aDoor.Pl
