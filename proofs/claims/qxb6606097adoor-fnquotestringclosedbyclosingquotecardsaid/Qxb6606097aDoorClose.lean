import Derived.Test.Qxb6606097aDoorIdxE
set_option linter.unusedSimpArgs false
set_option linter.unusedVariables false
namespace Go.Proofs.Qxb6606097aDoor
open Go.RowKit Go.PlainAid

/-- From every good place the scanner comes to the closing quote at e. -/
def ScanP (S : ByteArray) (e : Nat) (G : Nat → Prop) : Prop :=
  ∀ i, G i → ∃ q, i + q ≤ e ∧ (∀ j, j < q → bt S (i + j) ≠ 39) ∧ bt S (i + q) = 39 ∧ (i + q = e ∨ (i + q + 2 ≤ e ∧ bt S (i + q + 1) = 39 ∧ G (i + q + 2)))
def ScanE (S : ByteArray) (e : Nat) (G : Nat → Prop) : Prop :=
  ∀ i, G i → ∃ q, i + q ≤ e ∧ (∀ j, j < q → bt S (i + j) ≠ 39 ∧ bt S (i + j) ≠ 92) ∧ ((i + q = e ∧ bt S (i + q) = 39) ∨ (i + q + 2 ≤ e ∧ bt S (i + q) = 92 ∧ G (i + q + 2)))

theorem ext_bt (S : ByteArray) (i j : Nat) (h : i + j < S.size) : bt (S.extract i S.size) j = bt S (i + j) := by
  rw [← bang_bt _ j (by rw [ext_size S i (by omega)]; omega), ext_get S i j h, bang_bt S (i + j) h]

theorem at_ext {w : World} {b : Nat} {S : ByteArray} (h : BytesAt w b 0 S) (i : Nat) (hi : i ≤ S.size) : BytesAt w b i (S.extract i S.size) := fun j hj => by
  rw [ext_size S i hi] at hj
  rw [ext_bt S i j (by omega)]
  have := h (i + j) (by omega)
  rw [Nat.zero_add] at this
  exact this

/-- One step of the plain scanner. -/
theorem step1 (S : ByteArray) (b cap : Nat) (i q : Nat) (w : World) (hiq : i + q < S.size) (hc : BytesAt w b 0 S) (hn : ∀ j, j < q → bt S (i + j) ≠ 39) (hx : bt S (i + q) = 39) :
    Calls Tryd.prog 25 #[.slice (some ⟨b, i, none⟩) (S.size - i) (cap - i), .string ⟨#[39]⟩] w fun e w' => e = .returned (.int .i64 q) ∧ Below w.heap.size w w' := by
  have := any1 (S.extract i S.size) b i (cap - i) w q (by rw [ext_size S i (by omega)]; omega) (at_ext hc i (by omega)) (by rw [ext_bt S i q hiq]; exact hx) (fun j hj => by rw [ext_bt S i j (by omega)]; exact hn j hj)
  rw [ext_size S i (by omega)] at this
  exact this.mono fun e w' ⟨he, hw⟩ => ⟨he, by rw [hw]; exact Below.refl _ _⟩

theorem step2 (S : ByteArray) (b cap : Nat) (m : Int) (i q : Nat) (w : World) (hz : S.size ≤ 9223372036854775807) (hcap : S.size ≤ cap) (hb : b < w.heap.size) (hT : Tabs w) (h0 : 0 < w.heap.size) (hm : w.cell? ⟨0, 0, none⟩ = some (.int .i64 m))
    (hiq : i + q < S.size) (hc : BytesAt w b 0 S) (hn : ∀ j, j < q → bt S (i + j) ≠ 39 ∧ bt S (i + j) ≠ 92) (hx : bt S (i + q) = 39 ∨ bt S (i + q) = 92) :
    Calls Tryd.prog 25 #[.slice (some ⟨b, i, none⟩) (S.size - i) (cap - i), .string ⟨#[39, 92]⟩] w fun e w' => e = .returned (.int .i64 q) ∧ Below w.heap.size w w' := by
  have := any2 (S.extract i S.size) b i (cap - i) m w q (by rw [ext_size S i (by omega)]; omega) (by rw [ext_size S i (by omega)]; omega) (by rw [ext_size S i (by omega)]; omega) hb hT h0 hm (at_ext hc i (by omega)) (by rw [ext_bt S i q hiq]; exact hx) (fun j hj => by rw [ext_bt S i j (by omega)]; exact hn j hj)
  rw [ext_size S i (by omega)] at this
  exact this

theorem BytesAt.below {w w' : World} {b off : Nat} {t : ByteArray} (h : BytesAt w b off t) (hb : b < w.heap.size) (hbel : Below w.heap.size w w') : BytesAt w' b off t :=
  fun j hj => (hbel.cell (p := ⟨b, off + j, none⟩) hb).trans (h j hj)

theorem ret_close {a b : Int} (h : a = b) : Ending.returned (.tuple #[.int .i64 a, .bool true]) = .returned (.tuple #[.int .i64 b, .bool true]) := by rw [h]
theorem enc39 : Utf8.encode 39 = ⟨#[39]⟩ := by decide

set_option maxHeartbeats 2000000 in
set_option maxRecDepth 100000 in
theorem close_plain (S : ByteArray) (b cap e : Nat) (G : Nat → Prop) (w : World) (hz : S.size ≤ 16777216) (hcap : S.size ≤ cap) (hb : b < w.heap.size) (hc : BytesAt w b 0 S)
    (hs : ScanP S e G) (hG : G 1) (he : e < S.size) (hq : bt S 0 = 39) (hend : e + 1 < S.size → bt S (e + 1) ≠ 39) :
    Calls Tryd.prog 20 #[.slice (some ⟨b, 0, none⟩) S.size cap, .int .i64 0, .int .u8 0] w fun e' w' => e' = .returned (.tuple #[.int .i64 e, .bool true]) ∧ Below w.heap.size w w' := by
  have HC := hid hc
  have HS := hid hs
  have HG := hid hG
  have HE := hid hend
  have c0 : w.cell? ⟨b, 0, none⟩ = some (.int .u8 39) := by have := hc 0 (by omega); rw [hq] at this; simpa using this
  clear hc hs hG hend hq
  have en := enc39
  go_enter Tryd.func20, Tryd.ntmps20
  go_wp2
  go_loopw [10] (fun v wr => ∃ i : Nat, G i ∧ i ≤ e ∧ v = .int .i64 i ∧ Below w.heap.size w wr) (fun v _ => S.size - (intOf v).toNat)
  case atStart =>
    obtain ⟨q, h, _⟩ := HS.out 1 HG.out
    exact ⟨1, HG.out, by omega, rfl, Below.refl _ _⟩
  case round =>
    obtain ⟨i, hGi, hie, rfl, hbel⟩ := hrel
    obtain ⟨q, q1, q2, q3, q4⟩ := HS.out i hGi
    have C := hid (step1 S b cap i q wr (by omega) (HC.out.below hb hbel) q2 q3)
    have Q3 := hid q3
    have Q4 := hid q4
    clear q2 q3 q4
    go_wp2_with fail
    refine C.out.mono ?_
    rintro e' w1 ⟨rfl, hb1⟩
    have hbel1 : Below w.heap.size w w1 := hbel.trans (hb1.mono hbel.size)
    have hcS := HC.out.below hb hbel1
    have ci : w1.cell? ⟨b, i + q, none⟩ = some (.int .u8 39) := by
      have := hcS (i + q) (by omega)
      rw [Q3.out, Nat.zero_add] at this
      exact this
    clear C hb1 hbel
    rcases Q4.out with h | ⟨h1, h2, h3⟩
    · by_cases hlast : e + 1 < S.size
      · have hne := HE.out hlast
        have cj : w1.cell? ⟨b, i + q + 1, none⟩ = some (.int .u8 (bt S (i + q + 1))) := by
          have := hcS (i + q + 1) (by omega)
          rw [Nat.zero_add] at this
          exact this
        have hx : (bt S (i + q + 1) == 39) = false := by
          rw [beq_eq_false_iff_ne, show i + q + 1 = e + 1 by omega]; exact hne
        have hlt : i + q + 1 < S.size := by omega
        have H := hid h
        clear h hcS hne hie
        go_wp2
        go_ret2
        exact ⟨ret_close (by have := H.out; omega), hbel1⟩
      · have hlt : ¬ i + q + 1 < S.size := by omega
        have H := hid h
        clear h hcS hie
        go_wp2
        go_ret2
        exact ⟨ret_close (by have := H.out; omega), hbel1⟩
    · have cj : w1.cell? ⟨b, i + q + 1, none⟩ = some (.int .u8 39) := by
        have := hcS (i + q + 1) (by omega)
        rw [Nat.zero_add, h2] at this
        exact this
      have hlt : i + q + 1 < S.size := by omega
      have G3 := hid h3
      clear h2 h3 hcS hie
      go_wp2
      go_roundw
      case rel => exact ⟨i + q + 2, G3.out, h1, by go_num, hbel1⟩
      case measure => simp [intOf]; omega

theorem app92 : (⟨#[39]⟩ ++ ⟨#[92]⟩ : ByteArray) = ⟨#[39, 92]⟩ := by
  apply ByteArray.ext
  apply Array.toList_inj.1
  simp

set_option maxHeartbeats 2000000 in
set_option maxRecDepth 100000 in
theorem close_esc (S : ByteArray) (b cap e : Nat) (m : Int) (G : Nat → Prop) (w : World) (hz : S.size ≤ 16777216) (hcap : S.size ≤ cap) (hb : b < w.heap.size) (hT : Tabs w) (h0 : 0 < w.heap.size) (hm : w.cell? ⟨0, 0, none⟩ = some (.int .i64 m)) (hc : BytesAt w b 0 S)
    (hs : ScanE S e G) (hG : G 2) (he : e < S.size) (hq : bt S 1 = 39) (hend : e + 1 < S.size → bt S (e + 1) ≠ 39) :
    Calls Tryd.prog 20 #[.slice (some ⟨b, 0, none⟩) S.size cap, .int .i64 1, .int .u8 1] w fun e' w' => e' = .returned (.tuple #[.int .i64 e, .bool true]) ∧ Below w.heap.size w w' := by
  have HC := hid hc
  have HS := hid hs
  have HG := hid hG
  have HE := hid hend
  have HT := hid hT
  have HM := hid hm
  have h1s : 2 < S.size := by obtain ⟨q, h, _⟩ := hs 2 hG; omega
  have c0 : w.cell? ⟨b, 1, none⟩ = some (.int .u8 39) := by have := hc 1 (by omega); rw [hq] at this; simpa using this
  clear hc hs hG hend hq hT hm
  have en := enc39
  have ap := app92
  go_enter Tryd.func20, Tryd.ntmps20
  go_wp2
  go_loopw [10] (fun v wr => ∃ i : Nat, G i ∧ i ≤ e ∧ v = .int .i64 i ∧ Below w.heap.size w wr) (fun v _ => S.size - (intOf v).toNat)
  case atStart =>
    obtain ⟨q, h, _⟩ := HS.out 2 HG.out
    exact ⟨2, HG.out, by omega, rfl, Below.refl _ _⟩
  case round =>
    clear en ap c0
    obtain ⟨i, hGi, hie, rfl, hbel⟩ := hrel
    obtain ⟨q, q1, q2, q4⟩ := HS.out i hGi
    have C := hid (step2 S b cap m i q wr (by omega) hcap (Nat.lt_of_lt_of_le hb hbel.size) (HT.out.below hbel) (Nat.lt_of_lt_of_le h0 hbel.size) ((hbel.cell (p := ⟨0, 0, none⟩) h0).trans HM.out) (by omega) (HC.out.below hb hbel) q2 (by rcases q4 with h | h; exact Or.inl h.2; exact Or.inr h.2.1))
    have Q4 := hid q4
    clear q2 q4
    go_wp2_with fail
    refine C.out.mono ?_
    rintro e' w1 ⟨rfl, hb1⟩
    have hbel1 : Below w.heap.size w w1 := hbel.trans (hb1.mono hbel.size)
    have hcS := HC.out.below hb hbel1
    clear C hb1 hbel
    rcases Q4.out with ⟨h, q3⟩ | ⟨h1, h2, h3⟩
    · have ci : w1.cell? ⟨b, i + q, none⟩ = some (.int .u8 39) := by
        have := hcS (i + q) (by omega)
        rw [q3, Nat.zero_add] at this
        exact this
      clear q3
      by_cases hlast : e + 1 < S.size
      · have hne := HE.out hlast
        have cj : w1.cell? ⟨b, i + q + 1, none⟩ = some (.int .u8 (bt S (i + q + 1))) := by
          have := hcS (i + q + 1) (by omega)
          rw [Nat.zero_add] at this
          exact this
        have hx : (bt S (i + q + 1) == 39) = false := by
          rw [beq_eq_false_iff_ne, show i + q + 1 = e + 1 by omega]; exact hne
        have hlt : i + q + 1 < S.size := by omega
        have H := hid h
        clear h hcS hne hie
        go_wp2
        go_ret2
        exact ⟨ret_close (by have := H.out; omega), hbel1⟩
      · have hlt : ¬ i + q + 1 < S.size := by omega
        have H := hid h
        clear h hcS hie
        go_wp2
        go_ret2
        exact ⟨ret_close (by have := H.out; omega), hbel1⟩
    · have ci : w1.cell? ⟨b, i + q, none⟩ = some (.int .u8 92) := by
        have := hcS (i + q) (by omega)
        rw [h2, Nat.zero_add] at this
        exact this
      have hlt : i + q + 1 < S.size := by omega
      have hne : (((i : Int) + (q : Int) + 1) == (S.size : Int)) = false := by rw [beq_eq_false_iff_ne]; omega
      have G3 := hid h3
      clear h2 h3 hcS hie
      go_wp2
      go_roundw
      case rel => exact ⟨i + q + 2, G3.out, h1, by go_num, hbel1⟩
      case measure => simp [intOf]; omega

set_option maxHeartbeats 400000 in
/-- ZZClosingQuote hands on what closingQuote answers. -/
theorem zz_close (sv : Value) (ao : Option Addr) (n c : Nat) (hsv : sv = .slice ao n c) (o f : Int) (w : World) {p : Ending → World → Prop} {v : Int}
    (h : Calls Tryd.prog 20 #[.slice ao n c, .int .i64 o, .int .u8 f] w fun e' w' => e' = .returned (.tuple #[.int .i64 v, .bool true]) ∧ Below w.heap.size w w') :
    Calls Tryd.prog 12 #[.slice ao n c, .int .i64 o, .int .u8 f] w fun e' w' => e' = .returned (.tuple #[.int .i64 v, .bool true]) ∧ Below w.heap.size w w' := by
  have H := hid h
  clear h
  go_enter Tryd.func12, Tryd.ntmps12
  go_wp2_with fail
  refine H.out.mono ?_
  rintro e' w1 ⟨rfl, hb1⟩
  go_wp2
  go_ret2
  exact ⟨rfl, hb1⟩
end Go.Proofs.Qxb6606097aDoor
