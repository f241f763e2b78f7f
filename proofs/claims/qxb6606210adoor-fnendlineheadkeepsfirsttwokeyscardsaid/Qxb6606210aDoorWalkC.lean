import Derived.Test.Qxb6606210aDoorWalkB
import Derived.Lib.SlBytesRow
set_option linter.unusedSimpArgs false
set_option linter.unusedVariables false
namespace Go.Proofs.Qxb6606210aDoor
open Go.RowKit Go.PlainAid

/-- The bytes of s lie in block b, from its head on. -/
def BytesAt (w : World) (b : Nat) (s : ByteArray) : Prop := ∀ j, j < s.size → w.cell? ⟨b, j, none⟩ = some (.int .u8 (bt s j))
theorem BytesAt.below {w w' : World} {b B : Nat} {s : ByteArray} (h : BytesAt w b s) (hb : b < B) (hB : Below B w w') : BytesAt w' b s := fun j hj => (hB.cell (p := ⟨b, j, none⟩) hb).trans (h j hj)
theorem BytesAt.bytes {w : World} {b : Nat} {s : ByteArray} (h : BytesAt w b s) : Lib.Bytes w b 0 s := fun i hi => by
  rw [Nat.zero_add, get_bt s i hi]; exact h i hi

/-- The length of a line less one final CR. -/
def bl (s : ByteArray) : Nat := if 0 < s.size ∧ bt s (s.size - 1) = 13 then s.size - 1 else s.size
theorem bl_le (s : ByteArray) : bl s ≤ s.size := by unfold bl; split <;> omega

/-- The value of a key field. -/
def kv (s : ByteArray) (m : Nat) : Option ByteArray :=
  match (List.range m).find? (fun i => bt s i == 58) with
  | some p => if kn (bt s) p HD 0 then some (s.extract (p + 1) m) else none
  | none => none

theorem kv_at {s : ByteArray} {m p : Nat} (hp : p < m) (h : bt s p = 58) (hn : ∀ j, j < p → bt s j ≠ 58) : kv s m = if kn (bt s) p HD 0 then some (s.extract (p + 1) m) else none := by
  have : (List.range m).find? (fun i => bt s i == 58) = some p := by
    rw [List.find?_range_eq_some]
    exact ⟨by simp [h], by simpa using hp, fun j hj => by simpa using hn j hj⟩
  unfold kv
  rw [this]
theorem kv_no {s : ByteArray} {m : Nat} (hn : ∀ j, j < m → bt s j ≠ 58) : kv s m = none := by
  have : (List.range m).find? (fun i => bt s i == 58) = none := by
    rw [List.find?_eq_none]
    intro x hx
    simpa using hn x (by simpa using hx)
  unfold kv
  rw [this]

set_option maxHeartbeats 400000 in
theorem trim_any (s : ByteArray) (b c : Nat) (w : World) (hs : s.size ≤ 1048576) (hcap : s.size ≤ c) (hc : BytesAt w b s) :
    Calls Tryd.prog 9 #[.slice (some ⟨b, 0, none⟩) s.size c] w fun e w' => e = .returned (.slice (some ⟨b, 0, none⟩) (bl s) c) ∧ w' = w := by
  by_cases h0 : 0 < s.size
  · have hc1 := hc (s.size - 1) (by omega)
    have e1 : ((s.size : Int) - 1).toNat = s.size - 1 := by omega
    by_cases h1 : bt s (s.size - 1) = 13
    · have hb : bl s = s.size - 1 := by unfold bl; rw [if_pos ⟨h0, h1⟩]
      rw [hb]
      clear hb hc
      rw [h1] at hc1
      clear h1
      go_enter Tryd.func9, Tryd.ntmps9
      go_wp2
      go_ret
      exact ⟨rfl, rfl⟩
    · have hb : bl s = s.size := by unfold bl; rw [if_neg (fun h => h1 h.2)]
      rw [hb]
      clear hb hc
      have h1 : (bt s (s.size - 1) == 13) = false := by simp [h1]
      generalize bt s (s.size - 1) = x at *
      go_enter Tryd.func9, Tryd.ntmps9
      go_wp2
      go_ret
      exact ⟨rfl, rfl⟩
  · have hb : bl s = s.size := by unfold bl; rw [if_neg (fun h => h0 h.1)]
    rw [hb]
    clear hb hc
    go_enter Tryd.func9, Tryd.ntmps9
    go_wp2
    go_ret
    exact ⟨rfl, rfl⟩

set_option maxHeartbeats 1000000 in
set_option maxRecDepth 100000 in
theorem kv_any (s : ByteArray) (b c m : Nat) (w : World) (hs : s.size ≤ 1048576) (hm : m ≤ s.size) (hcap : s.size ≤ c) (hb : b < w.heap.size) (hc : BytesAt w b s) :
    Calls Tryd.prog 10 #[.slice (some ⟨b, 0, none⟩) m c] w fun e w' => e = .returned (.tuple #[.string ((kv s m).getD ⟨#[]⟩), .bool (kv s m).isSome]) ∧ Below w.heap.size w w' := by
  have HC := hid hc
  clear hc
  generalize hR : kv s m = R
  have HR := hid hR
  clear hR
  go_enter Tryd.func10, Tryd.ntmps10
  go_wp2
  go_loop [4] (fun v => ∃ i : Nat, i ≤ m ∧ v = .int .i64 i ∧ Hid (∀ j, j < i → bt s j ≠ 58)) (fun v => m - (intOf v).toNat)
  case atStart => exact ⟨0, by omega, rfl, hid (fun j hj => by omega)⟩
  case round =>
    obtain ⟨i, hi, rfl, hno⟩ := hrel
    by_cases hlt : i < m
    · have hci := HC.out i (by omega)
      by_cases hx : bt s i = 58
      · have hK := hid (isKey_any b i c (bt s) w (by omega) hb (fun j hj => HC.out j (by omega)) (fun j => ⟨bt_nonneg _ _, bt_le _ _⟩))
        have hv := kv_at hlt hx hno.out
        rw [hx] at hci
        clear hx
        cases hk : kn (bt s) i HD 0 with
        | false =>
          rw [hk] at hv hK
          rw [if_neg (by simp)] at hv
          obtain rfl : R = none := by rw [← HR.out, hv]
          clear hk hv
          go_wp2_with fail
          refine hK.out.mono ?_
          rintro e w1 ⟨rfl, hb1⟩
          go_wp2
          go_ret2
          exact ⟨rfl, hb1⟩
        | true =>
          rw [hk] at hv hK
          rw [if_pos rfl] at hv
          obtain rfl : R = some (s.extract (i + 1) m) := by rw [← HR.out, hv]
          clear hk hv
          have hw : ∀ w', Below w.heap.size w w' → (convert 22 9 (.slice (some ⟨b, i + 1, none⟩) (m - (i + 1)) (c - (i + 1)))).run Tryd.prog w' = .ok (.string (s.extract (i + 1) m)) w' := fun w' hb' => by
            have := Lib.run_convert_window (P := Tryd.prog) w' 22 5 9 Tryd.underlying22 Tryd.underlying5 Tryd.underlying9 b 0 s (HC.out.below hb hb').bytes (i + 1) (m - (i + 1)) (c - (i + 1)) (by omega)
            rw [Nat.zero_add, show i + 1 + (m - (i + 1)) = m by omega] at this
            exact this
          have hw0 : ∀ w' c', (convert 22 9 (.slice (some ⟨b, 0, none⟩) 0 c')).run Tryd.prog w' = .ok (.string ⟨#[]⟩) w' := fun w' c' =>
            run_convert_bytes_back (P := Tryd.prog) w' 22 9 5 ⟨b, 0, none⟩ c' [] Tryd.underlying22 Tryd.underlying5 Tryd.underlying9 (fun j hj => by simp at hj)
          replace hw := hid hw
          replace hw0 := hid hw0
          go_wp2_with fail
          refine hK.out.mono ?_
          rintro e w1 ⟨rfl, hb1⟩
          have h1 := hw.out w1 hb1
          have h2 := hw0.out w1
          by_cases hcc : i + 1 < c
          · go_wp2
            go_ret2
            exact ⟨rfl, hb1⟩
          · have he : s.extract (i + 1) m = ⟨#[]⟩ := by
              apply ByteArray.ext
              apply Array.toList_inj.1
              rw [ByteArray.data_extract]
              simp
              omega
            have hce : c = i + 1 := by omega
            subst hce
            have he' := hid he
            have h3 : (convert 22 9 (.slice (some ⟨b, 0, none⟩) (m - (i + 1)) 0)).run Tryd.prog w1 = .ok (.string ⟨#[]⟩) w1 := by
              rw [show m - (i + 1) = 0 by omega]; exact h2 0
            clear he h1 h2
            go_wp2
            go_ret2
            exact ⟨by rw [he'.out]; rfl, hb1⟩
      · have hx' : (bt s i == 58) = false := by simp [hx]
        have hno' : Hid (∀ j, j < i + 1 → bt s j ≠ 58) := hid (fun j hj => by
          by_cases h : j = i
          · subst h; exact hx
          · exact hno.out j (by omega))
        clear hx
        generalize bt s i = x at hci hx'
        go_wp2
        go_round
        case rel => exact ⟨i + 1, by omega, by go_num, hno'⟩
        case measure => simp [intOf]; omega
    · obtain rfl : i = m := by omega
      obtain rfl : R = none := by rw [← HR.out, kv_no hno.out]
      go_wp2
      go_ret2
      exact ⟨rfl, Below.refl _ _⟩
end Go.Proofs.Qxb6606210aDoor
