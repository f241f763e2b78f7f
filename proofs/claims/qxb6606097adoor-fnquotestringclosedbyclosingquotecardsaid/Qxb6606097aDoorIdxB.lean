import Derived.Test.Qxb6606097aDoorIdxA
import Derived.Test.Qxb6606097aDoorWalkB
import Derived.Test.Qxb6606097aDoorShelfB
set_option linter.unusedSimpArgs false
set_option linter.unusedVariables false
namespace Go.Proofs.Qxb6606097aDoor
open Go.RowKit Go.PlainAid

/-- The first 39 stands at p. -/
theorem indexByte_first (l : List UInt8) (c : UInt8) (p : Nat) (h : l[p]? = some c) (hn : ∀ j x, j < p → l[j]? = some x → x ≠ c) : Lib.indexByte l c = p := by
  induction l generalizing p with
  | nil => simp at h
  | cons b l ih =>
    unfold Lib.indexByte
    cases p with
    | zero =>
      simp at h
      rw [if_pos (by simp [h])]
      rfl
    | succ p =>
      have hb : b ≠ c := hn 0 b (by omega) rfl
      have := ih p (by simpa using h) (fun j x hj hx => hn (j + 1) x (by omega) (by simpa using hx))
      rw [if_neg (by simp [hb]), this]
      have h1 : ((p : Int) == -1) = false := by rw [beq_eq_false_iff_ne]; omega
      simp [h1]

theorem bt_get (t : ByteArray) (j : Nat) (x : UInt8) (h : t.data.toList[j]? = some x) : bt t j = (x.toNat : Int) := Pl.bt_list t j x h

theorem idx39 (t : ByteArray) (p : Nat) (hp : p < t.size) (hx : bt t p = 39) (hn : ∀ j, j < p → bt t j ≠ 39) : Lib.indexByte t.data.toList 39 = p := by
  apply indexByte_first
  · have := bt_eq t p hp 39 hx
    rw [Array.getElem?_toList, ← this]
    exact Array.getElem?_eq_getElem hp
  · intro j x hj h e
    subst e
    exact hn j hj (bt_get t j 39 h)

theorem bytes_of_at {w : World} {b off : Nat} {t : ByteArray} (h : BytesAt w b off t) : Lib.Bytes w b off t := fun i hi => by
  rw [h i hi, ← get_bt t i hi]

set_option maxHeartbeats 1000000 in
set_option maxRecDepth 100000 in
theorem indexRune39 (t : ByteArray) (b off cap : Nat) (w : World) (p : Nat) (hp : p < t.size) (hc : BytesAt w b off t) (hx : bt t p = 39) (hn : ∀ j, j < p → bt t j ≠ 39) :
    Calls Tryd.prog 36 #[.slice (some ⟨b, off, none⟩) t.size cap, .int .i32 39] w fun e w' => e = .returned (.int .i64 p) ∧ w' = w := by
  have C := hid (Tryd.bytes_IndexByte_bytes b off cap t 39 w (bytes_of_at hc))
  have e : ((39 : Int)).toNat.toUInt8 = 39 := rfl
  rw [e, idx39 t p hp hx hn] at C
  clear hc hx hn e
  go_enter Tryd.func36, Tryd.ntmps36
  go_wp2_with fail
  refine C.out.mono ?_
  rintro e w' ⟨rfl, hw⟩
  replace hw := hw.symm; subst hw
  go_wp2
  go_ret
  exact ⟨rfl, rfl⟩

set_option maxHeartbeats 1000000 in
set_option maxRecDepth 100000 in
theorem any1_many (t : ByteArray) (b off cap : Nat) (w : World) (p : Nat) (h2 : 2 ≤ t.size) (hp : p < t.size) (hc : BytesAt w b off t) (hx : bt t p = 39) (hn : ∀ j, j < p → bt t j ≠ 39) :
    Calls Tryd.prog 25 #[.slice (some ⟨b, off, none⟩) t.size cap, .string ⟨#[39]⟩] w fun e w' => e = .returned (.int .i64 p) ∧ w' = w := by
  have C := hid (indexRune39 t b off cap w p hp hc hx hn)
  have e1 : ((t.size : Int) == 1) = false := by rw [beq_eq_false_iff_ne]; omega
  have g0 : ∀ (h : 0 < (⟨#[39]⟩ : ByteArray).size), ((⟨#[39]⟩ : ByteArray)[0]'h) = 39 := fun _ => rfl
  clear hc hx hn
  go_enter Tryd.func25, Tryd.ntmps25
  go_wp2_with fail
  refine C.out.mono ?_
  rintro e w' ⟨rfl, hw⟩
  replace hw := hw.symm; subst hw
  go_wp2
  go_ret
  exact ⟨rfl, rfl⟩

/-- bytes.IndexAny at the set of the quote alone, where a quote stands: the first one's place. -/
theorem any1 (t : ByteArray) (b off cap : Nat) (w : World) (p : Nat) (hp : p < t.size) (hc : BytesAt w b off t) (hx : bt t p = 39) (hn : ∀ j, j < p → bt t j ≠ 39) :
    Calls Tryd.prog 25 #[.slice (some ⟨b, off, none⟩) t.size cap, .string ⟨#[39]⟩] w fun e w' => e = .returned (.int .i64 p) ∧ w' = w := by
  by_cases h1 : t.size = 1
  · obtain rfl : p = 0 := by omega
    exact any1_one t b off cap w h1 hc hx
  · exact any1_many t b off cap w p (by omega) hp hc hx hn
end Go.Proofs.Qxb6606097aDoor
