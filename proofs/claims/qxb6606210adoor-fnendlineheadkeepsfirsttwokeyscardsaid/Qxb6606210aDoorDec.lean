import Derived.Test.Qxb6606210aDoorWalkD
import Derived.Test.Qxb6606210aDoorShelf
set_option linter.unusedSimpArgs false
set_option linter.unusedVariables false
namespace Go.Proofs.Qxb6606210aDoor
open Go.RowKit Go.PlainAid Go.Shelf

theorem decN_high (n b0 b1 b2 b3 : Nat) (hn : 0 < n) (h0 : 128 ≤ b0) (k0 : b0 < 256) (k1 : b1 < 256) (k2 : b2 < 256) (k3 : b3 < 256) :
    128 ≤ (Lib.decodeN n b0 b1 b2 b3).1 ∧ (Lib.decodeN n b0 b1 b2 b3).1 ≤ 1114111 ∧ 1 ≤ (Lib.decodeN n b0 b1 b2 b3).2 ∧ (Lib.decodeN n b0 b1 b2 b3).2 ≤ n ∧
    ((Lib.decodeN n b0 b1 b2 b3).1 = 8490 → (Lib.decodeN n b0 b1 b2 b3).2 = 3 ∧ 3 ≤ n ∧ b0 = 226 ∧ b1 = 132 ∧ b2 = 170) ∧
    (3 ≤ n → b0 = 226 → b1 = 132 → b2 = 170 → (Lib.decodeN n b0 b1 b2 b3).1 = 8490) := by
  unfold Lib.decodeN
  rw [if_neg (by omega)]
  split
  · split
    · simp only; omega
    · simp only; omega
  · split
    · rename_i h2
      split
      · simp only
        refine ⟨by omega, by omega, by omega, by omega, fun h => ⟨trivial, by omega, by omega, by omega, by omega⟩, fun _ e0 e1 e2 => ?_⟩
        subst e0; subst e1; subst e2
        decide
      · rename_i h3
        simp only
        refine ⟨by omega, by omega, by omega, by omega, fun h => by omega, fun _ e0 e1 e2 => ?_⟩
        subst e0; subst e1; subst e2
        exact absurd (by decide) h3
    · split
      · split
        · simp only; omega
        · simp only; omega
      · simp only; omega

theorem get_bang (s : ByteArray) (k : Nat) (h : k < s.size) : s.get! k = s[k] := by
  cases s with
  | mk d => exact getElem!_pos d k h
theorem ext_size (t : ByteArray) (i p : Nat) (h : i ≤ p) (hp : p ≤ t.size) : (t.extract i p).size = p - i := by
  rw [ByteArray.size_extract]; omega
theorem ext_get (t : ByteArray) (i p j : Nat) (h : i + j < p) (hp : p ≤ t.size) : (((t.extract i p).get! j).toNat : Int) = bt t (i + j) := by
  rw [get_bang _ j (by rw [ext_size t i p (by omega) hp]; omega), ByteArray.getElem_extract]
  exact get_bt t (i + j) (by omega)

/-- What one step of decoding says of the rune r and its length k. -/
def Dec (s : ByteArray) (j p : Nat) (r : Int) (k : Nat) : Prop :=
  (bt s j < 128 ∧ r = bt s j ∧ k = 1) ∨
  (128 ≤ bt s j ∧ 128 ≤ r ∧ r ≤ 1114111 ∧ 1 ≤ k ∧ j + k ≤ p ∧ (r = 8490 → k = 3 ∧ j + 3 ≤ p ∧ bt s j = 226 ∧ bt s (j + 1) = 132 ∧ bt s (j + 2) = 170) ∧ (j + 3 ≤ p → bt s j = 226 → bt s (j + 1) = 132 → bt s (j + 2) = 170 → r = 8490))

theorem dec_of (s : ByteArray) (j p : Nat) (hj : j < p) (hp : p ≤ s.size) : ∃ (r k : Nat), Lib.decodeGo (s.extract j p) = (r, k) ∧ Dec s j p r k := by
  have hz := ext_size s j p (by omega) hp
  have hd : Lib.decodeGo (s.extract j p) = Lib.decodeN (p - j) ((s.extract j p).get! 0).toNat ((s.extract j p).get! 1).toNat ((s.extract j p).get! 2).toNat ((s.extract j p).get! 3).toNat := by
    unfold Lib.decodeGo
    rw [if_neg (by omega), Lib.decode_at, hz]
    rfl
  have g0 := ext_get s j p 0 (by omega) hp
  rw [Nat.add_zero] at g0
  refine ⟨(Lib.decodeGo (s.extract j p)).1, (Lib.decodeGo (s.extract j p)).2, rfl, ?_⟩
  rw [hd]
  have l : ∀ k, ((s.extract j p).get! k).toNat < 256 := fun k => UInt8.toNat_lt _
  by_cases hb : bt s j < 128
  · left
    unfold Lib.decodeN
    rw [if_pos (by omega)]
    exact ⟨hb, g0, rfl⟩
  · right
    obtain ⟨d1, d2, d3, d4, d5, d6⟩ := decN_high (p - j) _ _ _ _ (by omega) (by omega) (l 0) (l 1) (l 2) (l 3)
    refine ⟨by omega, by omega, by omega, d3, by omega, fun h => ?_, fun h h0 h1 h2 => ?_⟩
    · obtain ⟨e1, e2, e3, e4, e5⟩ := d5 (by omega)
      have g1 := ext_get s j p 1 (by omega) hp
      have g2 := ext_get s j p 2 (by omega) hp
      exact ⟨e1, by omega, by omega, by omega, by omega⟩
    · have g1 := ext_get s j p 1 (by omega) hp
      have g2 := ext_get s j p 2 (by omega) hp
      have := d6 (by omega) (by omega) (by omega) (by omega)
      omega

/-- utf8's two tables hold what their initialisers lay. -/
def Tabs (w : World) : Prop := Lib.Utf8Tabs (Tryd.lays7n32_ren.g 2) (Tryd.lays7n32_ren.g 3) w

/-- utf8.DecodeRune at the bytes of s from j to p. -/
theorem decode42 (s : ByteArray) (b cap j p : Nat) (hj : j < p) (hp : p ≤ s.size) : ∃ (r : Int) (k : Nat), Dec s j p r k ∧ ∀ w, Tabs w → BytesAt w b s →
    Calls Tryd.prog 42 #[.slice (some ⟨b, j, none⟩) (p - j) cap] w fun e w' => e = .returned (.tuple #[.int .i32 r, .int .i64 (k : Int)]) ∧ Below w.heap.size w w' := by
  obtain ⟨r, k, hd, h⟩ := dec_of s j p hj hp
  refine ⟨r, k, h, fun w hT hc => ?_⟩
  have := Any7.utf8_DecodeRune Tryd.lays7n32 (s.extract j p) b j cap w hT (fun i hi => by
    rw [ext_size s j p (by omega) hp] at hi
    rw [ext_get s j p i (by omega) hp]
    exact hc (j + i) (by omega))
  rw [ext_size s j p (by omega) hp, hd] at this
  exact this

/-- .. at an ASCII byte. -/
theorem decode42_ascii (b off n cap : Nat) (x : Int) (w : World) (hn : (0 : Int) < (n : Int)) (h0 : 0 ≤ x) (h1 : x < 128) (hc : w.cell? ⟨b, off, none⟩ = some (.int .u8 x)) :
    Calls Tryd.prog 42 #[.slice (some ⟨b, off, none⟩) n cap] w fun e w' => e = .returned (.tuple #[.int .i32 x, .int .i64 1]) ∧ w' = w := by
  have := Any7.utf8_DecodeRune_ascii Tryd.lays7n32 n b off cap x.toNat w hn (by rw [Int.toNat_of_nonneg h0]; exact hc) (by omega)
  rw [Int.toNat_of_nonneg h0] at this
  exact this
end Go.Proofs.Qxb6606210aDoor
