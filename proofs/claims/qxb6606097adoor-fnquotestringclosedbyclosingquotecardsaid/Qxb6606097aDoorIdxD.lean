import Derived.Test.Qxb6606097aDoorIdxC
import Derived.Test.Qxb6606097aDoorPlainD
set_option linter.unusedSimpArgs false
set_option linter.unusedVariables false
namespace Go.Proofs.Qxb6606097aDoor
open Go.RowKit Go.PlainAid

theorem ext_size (t : ByteArray) (i : Nat) (h : i ≤ t.size) : (t.extract i t.size).size = t.size - i := by
  rw [ByteArray.size_extract]; omega
theorem ext_get (t : ByteArray) (i j : Nat) (h : i + j < t.size) : (t.extract i t.size).get! j = t.get! (i + j) := by
  rw [Pl.get_bang _ j (by rw [ext_size t i (by omega)]; omega), Pl.get_bang t (i + j) h, ByteArray.getElem_extract]
theorem bang_bt (t : ByteArray) (j : Nat) (h : j < t.size) : ((t.get! j).toNat : Int) = bt t j := by
  rw [Pl.get_bang t j h]; exact get_bt t j h

/-- What one step of the slow loop needs of the decoded rune. -/
structure Dec (t : ByteArray) (i : Nat) (r n : Nat) : Prop where
  lo : 128 ≤ r
  hi : r ≤ 1114111
  n1 : 1 ≤ n
  n4 : n ≤ 4
  high : ∀ k, k < n → i + k < t.size → 128 ≤ bt t (i + k)
  two : r ≠ 65533 → n = 2 → ((⟨#[39, 92]⟩ : ByteArray).toList == (Utf8.encode (r : Int)).toList) = false
  size : r ≠ 65533 → 2 ≤ n ∧ (Utf8.encode (r : Int)).size = n

theorem dec_of (t : ByteArray) (i : Nat) (hi : i < t.size) (hb : 128 ≤ bt t i) : ∃ r n, Lib.decodeGo (t.extract i t.size) = (r, n) ∧ Dec t i r n := by
  have hz : ¬ (t.extract i t.size).size = 0 := by rw [ext_size t i (by omega)]; omega
  have h0 : (t.extract i t.size).get! 0 = t.get! i := ext_get t i 0 (by omega)
  have hb' : 128 ≤ ((t.extract i t.size).get! 0).toNat := by
    rw [h0]; have := bang_bt t i hi; omega
  obtain ⟨d1, d2, d3, d4, d5⟩ := Pl.dec_high (t.extract i t.size) 0 hb'
  obtain ⟨_, _, d6⟩ := (Pl.dec (t.extract i t.size) 0).2 hb'
  refine ⟨(Utf8.decode (t.extract i t.size) 0).1, (Utf8.decode (t.extract i t.size) 0).2, by unfold Lib.decodeGo; rw [if_neg hz], d1, d2, d3, d4, ?_, ?_, ?_⟩
  · intro k hk hik
    rcases Nat.eq_zero_or_pos k with rfl | hk0
    · exact hb
    · have := d6 k hk0 hk
      rw [Nat.zero_add, ext_get t i k hik] at this
      have h2 := bang_bt t (i + k) hik
      omega
  · intro hne hn
    obtain ⟨v, h2 | h3 | h4⟩ := d5 hne
    · rw [Pl.enc_head _ v d1 h2.2]
      apply beq_eq_false_iff_ne.2
      intro e
      rw [Lib.toList_data, Lib.toList_data] at e
      simp at e
      have := congrArg UInt8.toNat e.1
      simp at this
      omega
    · omega
    · omega
  · intro hne
    obtain ⟨v, h2 | h3 | h4⟩ := d5 hne
    · rw [Pl.enc_size _ v, if_neg (by omega), if_pos h2.2]; omega
    · rw [Pl.enc_size _ v, if_neg (by omega), if_neg (by omega), if_pos h3.2.2]; omega
    · rw [Pl.enc_size _ v, if_neg (by omega), if_neg (by omega), if_neg (by omega)]; omega

/-- internal/bytealg.IndexString at a text of two bytes and a longer one. -/
theorem x41 (E : ByteArray) (w : World) (m : Int) (hm : w.cell? ⟨0, 0, none⟩ = some (.int .i64 m)) (h2 : 3 ≤ E.size) (hb : (E.size : Int) ≤ m) :
    (callFunc 41 #[.string ⟨#[39, 92]⟩, .string E]).run Tryd.prog w = .ok (.value (.int .i64 (-1))) w := by
  rw [run_callFunc_extern Tryd.func41 (by kernel_rfl) (by kernel_rfl) (by kernel_rfl) (e := Extern.BytealgIndex.index) (by kernel_rfl), Lib.run_indexString ⟨#[39, 92]⟩ E w 0 m (by kernel_rfl) hm (by omega) hb (by decide)]
  have : Lib.index (⟨#[39, 92]⟩ : ByteArray).data.toList E.data.toList = -1 := by
    apply Lib.index_none
    intro j hj
    cases ho : Lib.occAt (⟨#[39, 92]⟩ : ByteArray).data.toList E.data.toList j with
    | false => rfl
    | true =>
      rcases Lib.occAt_room ho with h | h
      · have e1 : E.data.toList.length = E.size := by rw [Array.length_toList]; rfl
        have e2 : (⟨#[39, 92]⟩ : ByteArray).data.toList.length = 2 := rfl
        omega
      · have e1 : E.data.toList.length = E.size := by rw [Array.length_toList]; rfl
        rw [h] at e1
        simp at e1
        omega
  rw [this]
  rfl

/-- utf8's two tables hold what their initialisers lay. -/
def Tabs (w : World) : Prop := Lib.Utf8Tabs (Tryd.lays7n32_ren.g 2) (Tryd.lays7n32_ren.g 3) w
theorem Tabs.below {w w' : World} (h : Tabs w) (hb : Below w.heap.size w w') : Tabs w' := Utf8Tabs_below h hb

/-- utf8.DecodeRune at the rest of t from i on. -/
theorem decode40 (t : ByteArray) (b off cap i : Nat) (w : World) (hi : i ≤ t.size) (hT : Tabs w) (hc : BytesAt w b off t) :
    Calls Tryd.prog 40 #[.slice (some ⟨b, off + i, none⟩) (t.size - i) (cap - i)] w fun e w' => e = .returned (.tuple #[.int .i32 ((Lib.decodeGo (t.extract i t.size)).1 : Nat), .int .i64 ((Lib.decodeGo (t.extract i t.size)).2 : Nat)]) ∧ Below w.heap.size w w' := by
  have := Any7.utf8_DecodeRune Tryd.lays7n32 (t.extract i t.size) b (off + i) (cap - i) w hT (fun j hj => by
    rw [ext_size t i hi] at hj
    rw [ext_get t i j (by omega), bang_bt t (i + j) (by omega), Nat.add_assoc]
    exact hc (i + j) (by omega))
  rw [ext_size t i hi] at this
  exact this

theorem ib_no (x : Int) (h0 : 0 ≤ x) (h1 : x ≤ 255) (n1 : x ≠ 39) (n2 : x ≠ 92) : Lib.indexByte [39, 92] x.toNat.toUInt8 = -1 := by
  have hb : ∀ c : UInt8, c.toNat ≠ x.toNat → (c == x.toNat.toUInt8) = false := fun c hc => by
    rw [beq_eq_false_iff_ne]
    intro e
    apply hc
    rw [e]
    simp
    omega
  unfold Lib.indexByte
  rw [hb 39 (by show 39 ≠ x.toNat; omega)]
  unfold Lib.indexByte
  rw [hb 92 (by show 92 ≠ x.toNat; omega)]
  rfl
end Go.Proofs.Qxb6606097aDoor
