import Derived.Test.Qxb6606210aDoorWalkE
import Derived.Lib.IndexBytes
import Derived.Lib.IndexLaws
set_option linter.unusedSimpArgs false
set_option linter.unusedVariables false
namespace Go.Proofs.Qxb6606210aDoor
open Go.RowKit Go.PlainAid Go.Shelf

/-- The first n bytes of s, as numbers. -/
def nums (s : ByteArray) (n : Nat) : List Int := (List.range n).map (bt s)
theorem nums_length (s : ByteArray) (n : Nat) : (nums s n).length = n := by simp [nums]
theorem nums_get (s : ByteArray) (n j : Nat) (hj : j < n) : (nums s n).getD j 0 = bt s j := by simp [nums, List.getD, hj]
theorem nums_in {w : World} {b : Nat} {s : ByteArray} {n : Nat} (h : BytesAt w b s) (hn : n ≤ s.size) : Lib.BytesIn w (some ⟨b, 0, none⟩) n (nums s n) := fun _ =>
  ⟨b, 0, rfl, fun i hi => by rw [nums_get s n i hi, Nat.zero_add]; exact h i (by omega)⟩
theorem nums_bytes (s : ByteArray) (n j : Nat) (hj : j < n) : (Lib.bytesOf (nums s n))[j]? = some (UInt8.ofNat (bt s j).toNat) := by
  simp [Lib.bytesOf, nums, hj]
theorem nums_range (s : ByteArray) (n : Nat) : ∀ x ∈ nums s n, 0 ≤ x ∧ x < 256 := by
  intro x hx
  simp [nums] at hx
  obtain ⟨a, _, rfl⟩ := hx
  have := bt_nonneg s a
  have := bt_le s a
  omega
theorem one_in {w : World} {tb : Nat} {x : Int} (h : w.cell? ⟨tb, 0, none⟩ = some (.int .u8 x)) : Lib.BytesIn w (some ⟨tb, 0, none⟩) 1 [x] := fun _ =>
  ⟨tb, 0, rfl, fun i hi => by obtain rfl : i = 0 := (by omega); exact h⟩

theorem ofNat_eq (s : ByteArray) (j : Nat) (c : Nat) (hc : c < 256) : UInt8.ofNat (bt s j).toNat = UInt8.ofNat c ↔ bt s j = c := by
  have h0 := bt_nonneg s j
  have h1 := bt_le s j
  constructor
  · intro h
    have := congrArg UInt8.toNat h
    simp only [UInt8.toNat_ofNat'] at this
    omega
  · intro h
    rw [h]; rfl

theorem trim_val (s : ByteArray) (b c : Nat) : Lib.trimSuffixV (some ⟨b, 0, none⟩) s.size c (nums s s.size) [13] = .slice (some ⟨b, 0, none⟩) (bl s) c := by
  show Lib.bytesTrimSuffix b 0 s.size c (nums s s.size) [13] = _
  unfold Lib.bytesTrimSuffix
  have key : Lib.hasSuffix (Lib.bytesOf (nums s s.size)) (Lib.bytesOf [13]) = true ↔ (0 < s.size ∧ bt s (s.size - 1) = 13) := by
    unfold Lib.hasSuffix
    rw [List.isSuffixOf_iff_suffix]
    constructor
    · rintro ⟨t, ht⟩
      have hl := congrArg List.length ht
      simp [Lib.bytesOf, nums_length] at hl
      refine ⟨by omega, ?_⟩
      have := nums_bytes s s.size (s.size - 1) (by omega)
      rw [← ht, List.getElem?_append_right (by omega)] at this
      rw [show s.size - 1 - t.length = 0 by omega] at this
      simp only [Lib.bytesOf, List.map_cons, List.map_nil, List.getElem?_cons_zero, Option.some.injEq] at this
      exact (ofNat_eq s (s.size - 1) 13 (by omega)).1 this.symm
    · rintro ⟨h0, h1⟩
      refine ⟨(Lib.bytesOf (nums s s.size)).take (s.size - 1), ?_⟩
      apply List.ext_getElem?
      intro j
      have hl : (Lib.bytesOf (nums s s.size)).length = s.size := by rw [Lib.bytesOf_length, nums_length]
      by_cases hj : j < s.size - 1
      · rw [List.getElem?_append_left (by rw [List.length_take, hl]; omega), List.getElem?_take_of_lt hj]
      · rw [List.getElem?_append_right (by rw [List.length_take, hl]; omega), List.length_take, hl]
        by_cases hj2 : j = s.size - 1
        · subst hj2
          rw [nums_bytes s s.size (s.size - 1) (by omega), show s.size - 1 - min (s.size - 1) s.size = 0 by omega]
          simp only [Lib.bytesOf, List.map_cons, List.map_nil, List.getElem?_cons_zero, Option.some.injEq]
          exact ((ofNat_eq s (s.size - 1) 13 (by omega)).2 h1).symm
        · rw [List.getElem?_eq_none (by simp [Lib.bytesOf]; omega), List.getElem?_eq_none (by rw [hl]; omega)]
  unfold bl
  by_cases h : 0 < s.size ∧ bt s (s.size - 1) = 13
  · rw [if_pos (key.2 h), if_pos h]
    rfl
  · rw [if_neg (fun h' => h (key.1 h')), if_neg h]

theorem trim28 (s : ByteArray) (b c tb : Nat) (w : World) (hs : s.size ≤ 1048576) (hcap : s.size ≤ c) (hc : BytesAt w b s) (ht : w.cell? ⟨tb, 0, none⟩ = some (.int .u8 13)) :
    Calls Tryd.prog 28 #[.slice (some ⟨b, 0, none⟩) s.size c, .slice (some ⟨tb, 0, none⟩) 1 1] w fun e w' => e = .returned (.slice (some ⟨b, 0, none⟩) (bl s) c) ∧ w' = w := by
  have := Any.bytes_TrimSuffix_all Tryd.lays140 (some ⟨b, 0, none⟩) (some ⟨tb, 0, none⟩) s.size c 1 1 (nums s s.size) [13] w (nums_length _ _) rfl hcap (by omega) (nums_in hc (Nat.le_refl _)) (one_in ht)
  rw [trim_val] at this
  exact this

theorem indexByte_first (l : List UInt8) (c : UInt8) (p : Nat) (h : l[p]? = some c) (hn : ∀ j x, j < p → l[j]? = some x → x ≠ c) : Lib.indexByte l c = p := by
  induction l generalizing p with
  | nil => simp at h
  | cons a l ih =>
    unfold Lib.indexByte
    cases p with
    | zero =>
      simp at h
      subst h
      simp
    | succ p =>
      have ha : a ≠ c := hn 0 a (by omega) (by simp)
      have hb : (a == c) = false := by simpa using ha
      have := ih p (by simpa using h) (fun j x hj hx => hn (j + 1) x (by omega) (by simpa using hx))
      rw [hb, this]
      simp

/-- bytes.Cut at the colon, where there is one. -/
theorem cut29 (s : ByteArray) (b c tb m p : Nat) (mx : Int) (w : World) (hs : s.size ≤ 1048576) (hm : m ≤ s.size) (hcap : s.size ≤ c) (hc : BytesAt w b s) (ht : w.cell? ⟨tb, 0, none⟩ = some (.int .u8 58)) (hmx : w.cell? ⟨0, 0, none⟩ = some (.int .i64 mx))
    (hp : p < m) (hx : bt s p = 58) (hn : ∀ j, j < p → bt s j ≠ 58) :
    Calls Tryd.prog 29 #[.slice (some ⟨b, 0, none⟩) m c, .slice (some ⟨tb, 0, none⟩) 1 1] w fun e w' => e = .returned (.tuple #[.slice (some ⟨b, 0, none⟩) p c, .slice (some ⟨b, if c = p + 1 then 0 else p + 1, none⟩) (m - (p + 1)) (c - (p + 1)), .bool true]) ∧ ∃ q, w' = w.drewN q := by
  have := Any.bytes_Cut_all Tryd.laysT4 (some ⟨b, 0, none⟩) (some ⟨tb, 0, none⟩) m c 1 1 (nums s m) [58] mx w (nums_length _ _) rfl (nums_range s m) (by intro y hy; simp at hy; omega) (nums_in hc hm) (one_in ht) (by simp) (by omega) (by omega) (by omega) hmx
  have hi : Lib.index (Lib.bytesOf (nums s m)) (Lib.bytesOf [58]) = p := by
    show Lib.index _ [58] = _
    rw [Lib.index_one]
    refine indexByte_first _ _ p ?_ ?_
    · rw [nums_bytes s m p hp, hx]; rfl
    · intro j x hj hx' e
      rw [nums_bytes s m j (by omega)] at hx'
      have := Option.some.inj hx'
      subst e
      exact hn j hj ((ofNat_eq s j 58 (by omega)).1 this)
  rw [hi] at this
  refine this.mono ?_
  rintro e w' ⟨rfl, hq⟩
  refine ⟨?_, hq⟩
  unfold Lib.cutV Lib.fromV
  rw [if_pos (by omega)]
  by_cases h : c = p + 1
  · simp [h]
  · simp [h, Addr.add]

/-- .. and where there is none. -/
theorem cut29_no (s : ByteArray) (b c tb m : Nat) (mx : Int) (w : World) (hs : s.size ≤ 1048576) (hm : m ≤ s.size) (hcap : s.size ≤ c) (hc : BytesAt w b s) (ht : w.cell? ⟨tb, 0, none⟩ = some (.int .u8 58)) (hmx : w.cell? ⟨0, 0, none⟩ = some (.int .i64 mx))
    (hn : ∀ j, j < m → bt s j ≠ 58) :
    Calls Tryd.prog 29 #[.slice (some ⟨b, 0, none⟩) m c, .slice (some ⟨tb, 0, none⟩) 1 1] w fun e w' => e = .returned (.tuple #[.slice (some ⟨b, 0, none⟩) m c, .slice none 0 0, .bool false]) ∧ ∃ q, w' = w.drewN q := by
  have := Any.bytes_Cut_all Tryd.laysT4 (some ⟨b, 0, none⟩) (some ⟨tb, 0, none⟩) m c 1 1 (nums s m) [58] mx w (nums_length _ _) rfl (nums_range s m) (by intro y hy; simp at hy; omega) (nums_in hc hm) (one_in ht) (by simp) (by omega) (by omega) (by omega) hmx
  have hi : Lib.index (Lib.bytesOf (nums s m)) (Lib.bytesOf [58]) = -1 := by
    show Lib.index _ [58] = _
    rw [Lib.index_one]
    by_cases h : Lib.indexByte (Lib.bytesOf (nums s m)) 58 = -1
    · exact h
    · exfalso
      have hge : 0 ≤ Lib.indexByte (Lib.bytesOf (nums s m)) 58 := by
        have := Lib.index_ge (Lib.bytesOf (nums s m)) [58]
        rw [Lib.index_one] at this
        omega
      obtain ⟨o, ho⟩ := Int.eq_ofNat_of_zero_le hge
      have h1 := (Lib.indexByte_some ho).1
      have hlt : o < m := by
        have := (List.getElem?_eq_some_iff.1 h1).1
        rwa [Lib.bytesOf_length, nums_length] at this
      rw [nums_bytes s m o hlt] at h1
      exact hn o hlt ((ofNat_eq s o 58 (by omega)).1 (Option.some.inj h1))
  rw [hi] at this
  exact this
end Go.Proofs.Qxb6606210aDoor
