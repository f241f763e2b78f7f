import Derived.Test.Qxb6606097aDoorIdxD
import Derived.Handy
set_option linter.unusedSimpArgs false
set_option linter.unusedVariables false
namespace Go.Proofs.Qxb6606097aDoor
open Go.RowKit Go.PlainAid

set_option maxHeartbeats 2000000 in
set_option maxRecDepth 100000 in
theorem any2_short (t : ByteArray) (b off cap : Nat) (m : Int) (w : World) (p : Nat) (h2 : 2 ≤ t.size) (h8 : t.size ≤ 8) (hcap : t.size ≤ cap) (hp : p < t.size) (hb : b < w.heap.size) (hT : Tabs w) (h0 : 0 < w.heap.size) (hm : w.cell? ⟨0, 0, none⟩ = some (.int .i64 m))
    (hc : BytesAt w b off t) (hx : bt t p = 39 ∨ bt t p = 92) (hn : ∀ j, j < p → bt t j ≠ 39 ∧ bt t j ≠ 92) :
    Calls Tryd.prog 25 #[.slice (some ⟨b, off, none⟩) t.size cap, .string ⟨#[39, 92]⟩] w fun e w' => e = .returned (.int .i64 p) ∧ Below w.heap.size w w' := by
  have HC := hid hc
  have HX := hid hx
  have HN := hid hn
  have HT := hid hT
  have HM := hid hm
  clear hc hx hn hT hm
  have hch : ∃ ch : ByteArray, (⟨#[39, 92]⟩ : ByteArray) = ch ∧ ch.toList.isEmpty = false ∧ (ch.size : Int) = 2 ∧ Lib.indexByte ch.data.toList 39 = 0 ∧ Lib.indexByte ch.data.toList 92 = 1 ∧
      (∀ x : Int, 0 ≤ x → x ≤ 255 → x ≠ 39 → x ≠ 92 → Lib.indexByte ch.data.toList x.toNat.toUInt8 = -1) ∧
      (∀ (E : ByteArray) (w : World) (m : Int), w.cell? ⟨0, 0, none⟩ = some (.int .i64 m) → 3 ≤ E.size → (E.size : Int) ≤ m → (callFunc 41 #[.string ch, .string E]).run Tryd.prog w = .ok (.value (.int .i64 (-1))) w) ∧
      (∀ (w : World) ty, (Instr.next (.pointer (some ⟨w.heap.size, 0, none⟩)) true ty).run Tryd.prog (w.iter ch 0) = .ok (.tuple #[.bool true, .int .i64 0, .int .i32 39]) (w.iter ch 1)) ∧
      (∀ (w : World) ty, (Instr.next (.pointer (some ⟨w.heap.size, 0, none⟩)) true ty).run Tryd.prog (w.iter ch 1) = .ok (.tuple #[.bool true, .int .i64 1, .int .i32 92]) (w.iter ch 2)) ∧
      (∀ (w : World) ty, (Instr.next (.pointer (some ⟨w.heap.size, 0, none⟩)) true ty).run Tryd.prog (w.iter ch 2) = .ok (.tuple #[.bool false]) (w.iter ch 2)) ∧ (∀ i r n, Dec t i r n → r ≠ 65533 → n = 2 → (ch.toList == (Utf8.encode (r : Int)).toList) = false) :=
    ⟨_, rfl, by rw [Lib.toList_data]; rfl, rfl, by decide, by decide, ib_no, x41, fun w ty => run_next_ascii w ⟨#[39, 92]⟩ 0 ty (by decide) (by decide), fun w ty => run_next_ascii w ⟨#[39, 92]⟩ 1 ty (by decide) (by decide), fun w ty => run_next_end w ⟨#[39, 92]⟩ 2 ty (by decide), fun i r n D => D.two⟩
  obtain ⟨ch, hch, hemp, hz2, i1, i2, IB0, X410, N0, N1, N2, TW0⟩ := hch
  rw [hch]
  have IB := hid IB0
  have X41 := hid X410
  have TW := hid TW0
  clear hch IB0 X410 TW0
  have xx := x35 ch
  have e1 : ((t.size : Int) == 1) = false := by rw [beq_eq_false_iff_ne]; omega
  have h8i : ¬ (8 : Int) < (t.size : Int) := by omega
  go_enter Tryd.func25, Tryd.ntmps25
  go_wp2
  go_loopw [12] (fun v wr => ∃ i : Nat, i ≤ p ∧ v = .int .i64 i ∧ Below w.heap.size w wr) (fun v _ => t.size - (intOf v).toNat)
  case atStart => exact ⟨0, Nat.zero_le _, rfl, Below.refl _ _⟩
  case round =>
    obtain ⟨i, hi, rfl, hbel⟩ := hrel
    have hit : i < t.size := by omega
    have hci : wr.cell? ⟨b, off + i, none⟩ = some (.int .u8 (bt t i)) := (hbel.cell (p := ⟨b, off + i, none⟩) hb).trans (HC.out i hit)
    have b0 := bt_nonneg t i
    have b255 := bt_le t i
    rcases Nat.lt_or_eq_of_le hi with hlt | heq
    · obtain ⟨n1, n2⟩ := HN.out i hlt
      by_cases h128 : bt t i < 128
      · have ib := IB.out (bt t i) b0 b255 n1 n2
        go_wp2
        go_roundw
        case rel => exact ⟨i + 1, by omega, by go_num, hbel⟩
        case measure => simp [intOf]; omega
      · obtain ⟨r, n, hdec, D⟩ := dec_of t i hit (by omega)
        have CD := hid (decode40 t b off cap i wr (by omega) (HT.out.below hbel) (fun j hj => (hbel.cell (p := ⟨b, off + j, none⟩) hb).trans (HC.out j hj)))
        rw [hdec] at CD
        clear hdec
        have hnp : i + n ≤ p := by
          apply Nat.le_of_not_lt
          intro hlt2
          have := D.high (p - i) (by omega) (by omega)
          rw [show i + (p - i) = p by omega] at this
          rcases HX.out with h | h <;> omega
        have d1 := D.lo
        have d2 := D.hi
        have d3 := D.n1
        have d4 := D.n4
        have D' := hid D
        clear D n1 n2
        obtain ⟨E, hE⟩ : ∃ E : ByteArray, Utf8.encode (r : Int) = E := ⟨_, rfl⟩
        go_wp2_with fail
        refine CD.out.mono ?_
        rintro e w1 ⟨rfl, hb1⟩
        have hbel1 : Below w.heap.size w w1 := hbel.trans (hb1.mono hbel.size)
        have hm1 : w1.cell? ⟨0, 0, none⟩ = some (.int .i64 m) := (hbel1.cell (p := ⟨0, 0, none⟩) h0).trans HM.out
        clear CD hci hb1
        by_cases hr : r = 65533
        · subst hr
          clear hm1
          have nx0 := N0 w1
          have nx1 := N1 w1
          have nx2 := N2 w1
          go_wp2_with fail
          refine wp_loop_rounds 3 ?_
          rw [rounds_succ]
          go_wp2
          rw [rounds_succ]
          go_wp2
          rw [rounds_succ]
          go_wp2
          go_roundw
          case rel => exact ⟨i + n, by omega, by go_num, hbel1.alloc hbel1.size _⟩
          case measure => simp [intOf]; omega
        · have q0 : ((r : Int) != 65533) = true := by simpa using (by omega : ¬ (r : Int) = 65533)
          obtain ⟨z2, zE⟩ := D'.out.size hr
          rw [hE] at zE
          by_cases hn2 : n = 2
          · have e2 := TW.out i r n D'.out hr hn2
            rw [hE] at e2
            subst hn2
            clear hm1 zE z2 d3 d4 D' hr
            go_wp2_with fail
            go_roundw
            case rel => exact ⟨i + 2, by omega, by go_num, hbel1⟩
            case measure => simp [intOf]; omega
          · have e2 : ((2 : Int) == (n : Int)) = false := by rw [beq_eq_false_iff_ne]; omega
            by_cases hmn : (n : Int) ≤ m
            · have xy := X41.out E w1 m hm1 (by omega) (by omega)
              go_wp2_with fail
              go_roundw
              case rel => exact ⟨i + n, by omega, by go_num, hbel1⟩
              case measure => simp [intOf]; omega
            · have hmn' : decide ((n : Int) ≤ m) = false := decide_eq_false hmn
              clear zE z2 D' hmn hE hr hn2
              have nx0 := N0 w1
              have nx1 := N1 w1
              have nx2 := N2 w1
              go_wp2_with fail
              refine wp_loop_rounds 3 ?_
              rw [rounds_succ]
              go_wp2
              rw [rounds_succ]
              go_wp2
              rw [rounds_succ]
              go_wp2
              go_roundw
              case rel => exact ⟨i + n, by omega, by go_num, hbel1.alloc hbel1.size _⟩
              case measure => simp [intOf]; omega
    · subst heq
      rcases HX.out with h | h
      all_goals
        rw [h] at hci
        clear b0 b255
        go_wp2
        go_ret
        exact ⟨rfl, hbel⟩

/-- bytes.IndexAny at the set of the quote and the backslash, where one of them stands: the first one's place. -/
theorem any2 (t : ByteArray) (b off cap : Nat) (m : Int) (w : World) (p : Nat) (hz : t.size ≤ 9223372036854775807) (hcap : t.size ≤ cap) (hp : p < t.size) (hb : b < w.heap.size) (hT : Tabs w) (h0 : 0 < w.heap.size) (hm : w.cell? ⟨0, 0, none⟩ = some (.int .i64 m))
    (hc : BytesAt w b off t) (hx : bt t p = 39 ∨ bt t p = 92) (hn : ∀ j, j < p → bt t j ≠ 39 ∧ bt t j ≠ 92) :
    Calls Tryd.prog 25 #[.slice (some ⟨b, off, none⟩) t.size cap, .string ⟨#[39, 92]⟩] w fun e w' => e = .returned (.int .i64 p) ∧ Below w.heap.size w w' := by
  by_cases h1 : t.size = 1
  · obtain rfl : p = 0 := by omega
    exact (any2_one t b off cap w h1 hc hx).mono fun e w' ⟨he, hw⟩ => ⟨he, by rw [hw]; exact Below.refl _ _⟩
  · by_cases h8 : 8 < t.size
    · exact any2_long t b off cap w p h8 hz hp hb hc hx hn
    · exact any2_short t b off cap m w p (by omega) (by omega) hcap hp hb hT h0 hm hc hx hn
end Go.Proofs.Qxb6606097aDoor
