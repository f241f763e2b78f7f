import Derived.Test.Qxb6606210aDoorWalkH
import Derived.Lib.ConvBytes
set_option linter.unusedSimpArgs false
set_option linter.unusedVariables false
namespace Go.Proofs.Qxb6606210aDoor
open Go.RowKit Go.PlainAid Go.Shelf

/-- The marks and the fields behind k lines. -/
def stt (S : Nat → ByteArray) : Nat → Bool × List ByteArray
  | 0 => (false, [])
  | k + 1 => (stE (decide (0 < k)) (S k) (stt S k).1, stF (decide (0 < k)) (S k) (stt S k).2)

theorem stF_of (s : ByteArray) (Fs : List ByteArray) (hz : ¬ bl s = 0) : (kv s (bl s) = none → stF true s Fs = Fs) ∧ (∀ y, kv s (bl s) = some y → Fs.length < 2 → stF true s Fs = Fs ++ [y]) ∧ (∀ y, kv s (bl s) = some y → ¬ Fs.length < 2 → stF true s Fs = Fs) := by
  refine ⟨fun h => ?_, fun y h h2 => ?_, fun y h h2 => ?_⟩
  · unfold stF; rw [if_neg (by decide), if_neg hz, h]
  · unfold stF; rw [if_neg (by decide), if_neg hz, h]; simp [h2]
  · unfold stF; rw [if_neg (by decide), if_neg hz, h]; simp [h2]

theorem stF_len (rd : Bool) (s : ByteArray) (Fs : List ByteArray) (h : Fs.length ≤ 2) : (stF rd s Fs).length ≤ 2 := by
  unfold stF
  split
  · exact h
  · split
    · exact h
    · split
      · split
        · rw [List.length_append]; simp; omega
        · exact h
      · exact h
theorem stt_len (S : Nat → ByteArray) : ∀ k, (stt S k).2.length ≤ 2
  | 0 => by simp [stt]
  | k + 1 => stF_len _ _ _ (stt_len S k)
theorem stt_one (S : Nat → ByteArray) : stt S 1 = (false, []) := by
  simp [stt, stE, stF]

/-- '[]byte(s)'. -/
theorem bytes_of (w : World) (s : ByteArray) : ∃ wk cap, (convert 9 22 (.string s)).run Tryd.prog w = .ok (.slice (some ⟨w.heap.size, 0, none⟩) s.size cap) wk ∧ Below w.heap.size w wk ∧ BytesAt wk w.heap.size s ∧ s.size ≤ cap ∧ w.heap.size < wk.heap.size := by
  refine ⟨_, _, Lib.run_convert_string_bytes (P := Tryd.prog) w 9 22 5 s Tryd.underlying9 Tryd.underlying22 Tryd.underlying5, ?_, ?_, grownCap_ge w s.size 0 5, by rw [Lib.bytesWorld_size]; omega⟩
  · exact ⟨rfl, rfl, rfl, by rw [Lib.bytesWorld_size]; omega, fun k hk => Lib.bytesWorld_at_old w 5 s k hk⟩
  · intro j hj
    rw [Lib.bytesWorld_cell w 5 s j hj, ← get_bt s j hj]
    congr 3
    have : j < s.data.toList.length := by rw [Array.length_toList]; exact hj
    simp [List.getD, List.getElem?_eq_getElem this]
    rfl

theorem tot_le (S : Nat → ByteArray) : ∀ n j, j < n → (S j).size ≤ totS S n
  | 0, j, hj => by omega
  | n + 1, j, hj => by
    show _ ≤ totS S n + (S n).size
    by_cases h : j = n
    · subst h; omega
    · have := tot_le S n j (by omega); omega

theorem own_base {w : World} {B n : Nat} {F : Value} {xs : List Value} (h : w.ownsRow B 9 1 F n xs) (k : Nat) (hk : F.ownBlock = some k) : B ≤ k := by
  rcases h.2 with ⟨rfl, _⟩ | ⟨g, cap, cur, rfl, hb, _⟩
  · simp [Value.ownBlock] at hk
  · simp [Value.ownBlock] at hk; omega
theorem own_at {w : World} {B n c q : Nat} {ao : Option Addr} {L : List ByteArray} (h : w.ownsRow B 9 1 (.slice ao n c) n (sv L)) (hq : q < n) (hl : q < L.length) : ∃ g, ao = some ⟨g, 0, none⟩ ∧ g < w.heap.size ∧ w.cell? ⟨g, q, none⟩ = some (.string L[q]) := by
  rcases h.2 with ⟨h', h0⟩ | ⟨g, cap, cur, h', _, hg, _⟩
  · omega
  · simp only [Value.slice.injEq, true_and] at h'
    obtain ⟨rfl, rfl⟩ := h'
    exact ⟨g, rfl, (Array.getElem?_eq_some_iff.1 hg).1, by rw [h.cellAt q (by omega)]; simp [sv, hl]⟩

theorem Row.at {B : Nat} {w : World} {ao : Option Addr} {n k : Nat} {S : Nat → ByteArray} (h : Row B w ao n S) (hk : k < n) : ∃ g, ao = some ⟨g, 0, none⟩ ∧ B ≤ g ∧ g < w.heap.size ∧ ∀ j, j < n → w.cell? ⟨g, j, none⟩ = some (.string (S j)) := by
  rcases h with h | h
  · omega
  · exact h

set_option maxHeartbeats 4000000 in
set_option maxRecDepth 100000 in
theorem law_any (ao : Option Addr) (n c : Nat) (S : Nat → ByteArray) (w : World) (hn : n ≤ 9223372036854775807) (hS : StrsAt w ao n S) (hnil : ao = none → n = 0) (sS : ∀ j, j < n → (S j).size ≤ 9223372036854775807) (hG : Glob w) :
    Calls Tryd.prog 4 #[.slice ao n c] w fun e w' => e = .returned (.bool true) ∧ Below w.heap.size w w' := by
  have C13 := hid (bytes_any ao n c S w hn hS sS)
  have HS := hid hS
  have HN := hid hnil
  have HG := hid hG
  clear hS hnil sS hG
  go_enter Tryd.func4, Tryd.ntmps4
  go_wp2_with fail
  refine C13.out.mono ?_
  rintro e w' ⟨he, hw⟩
  replace hw := hw.symm; subst hw
  rcases he.cases with ⟨rfl, hP⟩ | rfl
  rotate_left
  · go_wp2
    go_ret
    exact ⟨rfl, Below.refl _ _⟩
  clear he C13
  have hsz := hid (fun j (hj : j < n) => (show (S j).size ≤ 1048576 by have := tot_le S n j hj; omega))
  have hn' : n ≤ 1048576 := by omega
  clear hP hn
  by_cases hbig : (16384 : Int) < (n : Int)
  · go_wp2
    go_ret
    exact ⟨rfl, Below.refl _ _⟩
  go_wp2
  go_loop [3, 4] (fun z i => ∃ k y : Nat, k ≤ n ∧ i = .int .i64 k ∧ z = .int .i64 (y : Int) ∧ y ≤ 1048576) (fun _ i => n - (intOf i).toNat)
  case atStart => exact ⟨0, 16 * n, Nat.zero_le _, rfl, by go_num, by omega⟩
  case round =>
    obtain ⟨k, y, hk, rfl, rfl, hz⟩ := hrel
    by_cases hlt : k < n
    · obtain ⟨b, off, rfl, hb, hc⟩ := HS.out.pos hlt
      have hck := hc k hlt
      have hszk := hsz.out k hlt
      clear hc
      by_cases h2 : (1048576 : Int) < (y : Int) + ((S k).size : Int)
      · go_wp2
        go_ret
        exact ⟨rfl, Below.refl _ _⟩
      · go_wp2
        go_round
        case rel => exact ⟨k + 1, y + (S k).size, by omega, by go_num, by go_num, by omega⟩
        case measure => simp [intOf]; omega
    · obtain rfl : k = n := by omega
      have D1 := hid (clone_any ao k c S w hn' HS.out HN.out)
      clear HS HN hz
      go_wp2_with fail
      refine D1.out.mono ?_
      rintro e w1 ⟨⟨ao', c', rfl, hrow⟩, hb1⟩
      have HB1 := hid hb1
      have HR := hid hrow
      clear D1 hb1 hrow
      go_wp2
      go_loopw [5, 6, 7, 8, 9, 10] (fun f rd en sz un i wr => ∃ j : Nat, j ≤ k ∧ i = .int .i64 j ∧ rd = .bool (decide (0 < j)) ∧ en = .bool (stt S j).1 ∧ sz = .int .i64 0 ∧ un = .int .i64 0 ∧ Hid (wr.ownsRow w1.heap.size 9 1 f (stt S j).2.length (sv (stt S j).2)) ∧ Hid (Below w1.heap.size w1 wr)) (fun _ _ _ _ _ i _ => k - (intOf i).toNat)
      case atStart => exact ⟨0, Nat.zero_le _, rfl, rfl, rfl, rfl, rfl, World.ownsRow_nil _ _ _ _, Below.refl _ _⟩
      case round =>
        obtain ⟨j, hj, rfl, rfl, rfl, rfl, rfl, hrow, HB⟩ := hrel
        by_cases hlt : j < k
        · obtain ⟨g, rfl, hg1, hg2, hgc⟩ := HR.out.at hlt
          have hcj := (HB.out.cell (p := ⟨g, j, none⟩) hg2).trans (hgc j hlt)
          have hszj := hsz.out j hlt
          obtain ⟨wk, cap, hcv, hbk, hby, hcap, hlk⟩ := bytes_of wr (S j)
          have hBk : Below w1.heap.size w1 wk := HB.out.trans (hbk.mono HB.out.size)
          have hGk : Glob wk := (HG.out.below HB1.out).below hBk
          have Z := hid (zz_any (S j) wr.heap.size cap w1.heap.size _ (stt S j).2 (decide (0 < j)) (stt S j).1 wk hszj hcap hlk hby hGk (hrow.out.kept (grown_of_below hbk) (own_none _)) hBk.size (stt_len S j))
          have HBK := hid hBk
          clear hbk hby hBk hGk hgc hrow
          go_wp2_with fail
          refine Z.out.mono ?_
          rintro e w3 ⟨F', rfl, hr3, hb3⟩
          replace hr3 := hid hr3
          replace hb3 := hid (HBK.out.trans hb3)
          clear Z
          go_wp2
          go_roundw
          case rel => exact ⟨j + 1, by omega, by go_num, by simp, rfl, rfl, rfl, hr3, hb3⟩
          case measure => simp [intOf]; omega
        · obtain rfl : j = k := by omega
          obtain ⟨w2, rfl⟩ : ∃ w2 : World, w2 = wr := ⟨_, rfl⟩
          obtain ⟨fo, fc, hfe⟩ := own_form hrow.out
          subst hfe
          have hB12 := hid (HB1.out.trans (HB.out.mono HB1.out.size))
          have HR2 := hid (HR.out.below HB.out (Nat.le_refl _))
          go_wp2
          go_loopw [12, 13, 14] (fun we v i wr => ∃ m : Nat, 1 ≤ m ∧ (m ≤ j ∨ m = 1) ∧ i = .int .i64 m ∧ we = .bool (stt S m).1 ∧ Hid (wr.ownsRow w2.heap.size 9 1 v (stt S m).2.length (sv (stt S m).2)) ∧ Hid (Below w2.heap.size w2 wr)) (fun _ _ i _ => j + 1 - (intOf i).toNat)
          case atStart => exact ⟨1, Nat.le_refl _, Or.inr rfl, rfl, by rw [stt_one], by rw [stt_one]; exact World.ownsRow_nil _ _ _ _, Below.refl _ _⟩
          case round =>
            obtain ⟨m, hm1, hm2, rfl, rfl, hw3, HB3⟩ := hrel
            obtain ⟨vo, vc, hve⟩ := own_form hw3.out
            subst hve
            by_cases hlt : m < j
            · obtain ⟨g, rfl, hg1, hg2, hgc⟩ := HR2.out.at hlt
              have hcm := (HB3.out.cell (p := ⟨g, m, none⟩) hg2).trans (hgc m hlt)
              have hszm := hsz.out m hlt
              obtain ⟨wk, cap, hcv, hbk, hby, hcap, hlk⟩ := bytes_of wr (S m)
              have hBk := hid (HB3.out.trans (hbk.mono HB3.out.size))
              have hwk := hid (hw3.out.kept (grown_of_below hbk) (own_none _))
              have T9 := hid (trim_any (S m) wr.heap.size cap wk hszm hcap hby)
              have T10 := hid (kv_any (S m) wr.heap.size cap (bl (S m)) wk hszm (bl_le _) hcap hlk hby)
              have hstt : stt S (m + 1) = (stE true (S m) (stt S m).1, stF true (S m) (stt S m).2) := by
                show (stE (decide (0 < m)) (S m) (stt S m).1, stF (decide (0 < m)) (S m) (stt S m).2) = _
                rw [show decide (0 < m) = true by simp; omega]
              have hlen := stt_len S m
              clear hby hbk hgc
              go_wp2_with fail
              refine T9.out.mono ?_
              rintro e w' ⟨rfl, hw⟩
              replace hw := hw.symm; subst hw
              by_cases hz : bl (S m) = 0
              · have e1 : stt S (m + 1) = (true, (stt S m).2) := by rw [hstt]; simp [stE, stF, hz]
                have E1 := hid e1
                have hz' : ((bl (S m) : Int) == 0) = true := by simp [hz]
                clear hstt hz e1 T10
                go_wp2
                go_roundw
                case rel => exact ⟨m + 1, by omega, Or.inl (by omega), by go_num, by rw [E1.out], by rw [E1.out]; exact hwk, hBk⟩
                case measure => simp [intOf]; omega
              · have hE : stE true (S m) (stt S m).1 = (stt S m).1 := by unfold stE; rw [if_neg (by decide), if_neg hz]
                rw [hE] at hstt
                have hFF := hid (fun Fs => stF_of (S m) Fs hz)
                have hz' : ((bl (S m) : Int) == 0) = false := by simp [hz]
                clear hz hE
                replace hstt := hid hstt
                cases hkv : kv (S m) (bl (S m)) with
                | none =>
                  rw [hkv] at T10
                  have E1 := hid (show stt S (m + 1) = ((stt S m).1, (stt S m).2) by rw [hstt.out, (hFF.out _).1 hkv])
                  clear hkv
                  go_wp2_with fail
                  refine T10.out.mono ?_
                  rintro e w4 ⟨rfl, hb4⟩
                  have hw4 := hid (hwk.out.kept (grown_of_below hb4) (own_none _))
                  have hB4 := hid (hBk.out.trans (hb4.mono hBk.out.size))
                  clear hb4 T10
                  go_wp2
                  go_roundw
                  case rel => exact ⟨m + 1, by omega, Or.inl (by omega), by go_num, by rw [E1.out], by rw [E1.out]; exact hw4, hB4⟩
                  case measure => simp [intOf]; omega
                | some y =>
                  rw [hkv] at T10
                  replace hkv := hid hkv
                  go_wp2_with fail
                  refine T10.out.mono ?_
                  rintro e w4 ⟨rfl, hb4⟩
                  have hw4 := hid (hwk.out.kept (grown_of_below hb4) (own_none _))
                  have hB4 := hid (hBk.out.trans (hb4.mono hBk.out.size))
                  clear hb4 T10
                  by_cases hl2 : (stt S m).2.length < 2
                  · have E1 := hid (show stt S (m + 1) = ((stt S m).1, (stt S m).2 ++ [y]) by rw [hstt.out, (hFF.out _).2.1 y hkv.out hl2])
                    obtain ⟨i, hi, hz0, hz1, hz2⟩ := info_parts Tryd.info9
                    go_wp2_with (at_builtin; refine wpList_append_own _ rfl (.tmp 102) (.tmp 104) 23 rfl w2.heap.size 9 i (.string ⟨#[]⟩) 1 16 Tryd.underlying23 hi hz0 hz1 hz2 rfl (by decide) (.slice vo (stt S m).2.length vc) (stt S m).2.length (sv (stt S m).2) rfl (hw4.out.alloc _) ⟨w4.heap.size, 0, none⟩ 1 1 [.string y] rfl rfl ?c1 ?c2 ?c3 ?c4 ?c5 ?_)
                    case c1 => exact cell_one_new _ _ _
                    case c2 => intro u hu; simp at hu; subst hu; rfl
                    case c3 => unfold maxLen; omega
                    case c4 => omega
                    case c5 => have := hB4.out.size; simp; omega
                    intro v5 w5 hown5 hgrow5 _
                    have h5 := hid (show w5.ownsRow w2.heap.size 9 1 v5 ((stt S m).2 ++ [y]).length (sv ((stt S m).2 ++ [y])) by rw [sv_snoc, List.length_append]; exact hown5)
                    have hB5 := hid ((hB4.out.alloc hB4.out.size _).grown hgrow5 (by have := hB4.out.size; simp; omega) (fun k hk => own_base hw4.out k hk))
                    clear hown5 hgrow5 hi hz0 hz1 hz2
                    go_wp2
                    go_roundw
                    case rel => exact ⟨m + 1, by omega, Or.inl (by omega), by go_num, by rw [E1.out], by rw [E1.out]; exact h5, hB5⟩
                    case measure => simp [intOf]; omega
                  · have E1 := hid (show stt S (m + 1) = ((stt S m).1, (stt S m).2) by rw [hstt.out, (hFF.out _).2.2 y hkv.out hl2])
                    go_wp2
                    go_roundw
                    case rel => exact ⟨m + 1, by omega, Or.inl (by omega), by go_num, by rw [E1.out], by rw [E1.out]; exact hw4, hB4⟩
                    case measure => simp [intOf]; omega
            · have hmj : stt S m = stt S j := by
                by_cases h : m = j
                · rw [h]
                · obtain rfl : m = 1 := by omega
                  obtain rfl : j = 0 := by omega
                  rw [stt_one]; rfl
              rw [hmj] at hw3 ⊢
              clear hmj
              have hf3 := hid (hrow.out.kept (grown_of_below HB3.out) (own_none _))
              have hB3 := hid (hB12.out.trans (HB3.out.mono hB12.out.size))
              have hL2 := stt_len S j
              generalize (stt S j).1 = E at *
              generalize (stt S j).2 = L at *
              by_cases hj0 : j = 0
              · have z0 : (decide (0 < j)) = false := by simp; omega
                have z1 : ¬ (0 : Int) < (j : Int) := by omega
                rw [z0]
                clear z0
                obtain ⟨w3, rfl⟩ : ∃ w3 : World, w3 = wr := ⟨_, rfl⟩
                replace hw3 := hid hw3.out
                go_wp2
                go_loopw [18] (fun i wr => ∃ q : Nat, q ≤ L.length ∧ i = .int .i64 q ∧ Hid (Below w3.heap.size w3 wr)) (fun i _ => L.length - (intOf i).toNat)
                case atStart => exact ⟨0, Nat.zero_le _, rfl, Below.refl _ _⟩
                case round =>
                  obtain ⟨q, hq, rfl, HB4⟩ := hrel
                  by_cases hlt : q < L.length
                  · obtain ⟨g1, rfl, hg1, hc1⟩ := own_at hf3.out hlt hlt
                    obtain ⟨g2, rfl, hg2, hc2⟩ := own_at hw3.out hlt hlt
                    have d1 := (HB4.out.cell (p := ⟨g1, q, none⟩) hg1).trans hc1
                    have d2 := (HB4.out.cell (p := ⟨g2, q, none⟩) hg2).trans hc2
                    clear hc1 hc2
                    generalize L[q] = y at d1 d2
                    go_wp2_with fail
                    go_quiet (fail)
                    go_wp2
                    go_roundw
                    case rel => exact ⟨q + 1, by omega, by go_num, drewsB HB4.out _⟩
                    case measure => simp [intOf]; omega
                  · obtain rfl : q = L.length := by omega
                    go_wp2
                    go_ret
                    exact ⟨rfl, hB3.out.trans (HB4.out.mono hB3.out.size)⟩
              · have z0 : (decide (0 < j)) = true := by simp; omega
                have z1 : (0 : Int) < (j : Int) := by omega
                rw [z0]
                clear z0
                obtain ⟨w3, rfl⟩ : ∃ w3 : World, w3 = wr := ⟨_, rfl⟩
                replace hw3 := hid hw3.out
                go_wp2
                go_loopw [18] (fun i wr => ∃ q : Nat, q ≤ L.length ∧ i = .int .i64 q ∧ Hid (Below w3.heap.size w3 wr)) (fun i _ => L.length - (intOf i).toNat)
                case atStart => exact ⟨0, Nat.zero_le _, rfl, Below.refl _ _⟩
                case round =>
                  obtain ⟨q, hq, rfl, HB4⟩ := hrel
                  by_cases hlt : q < L.length
                  · obtain ⟨g1, rfl, hg1, hc1⟩ := own_at hf3.out hlt hlt
                    obtain ⟨g2, rfl, hg2, hc2⟩ := own_at hw3.out hlt hlt
                    have d1 := (HB4.out.cell (p := ⟨g1, q, none⟩) hg1).trans hc1
                    have d2 := (HB4.out.cell (p := ⟨g2, q, none⟩) hg2).trans hc2
                    clear hc1 hc2
                    generalize L[q] = y at d1 d2
                    go_wp2_with fail
                    go_quiet (fail)
                    go_wp2
                    go_roundw
                    case rel => exact ⟨q + 1, by omega, by go_num, drewsB HB4.out _⟩
                    case measure => simp [intOf]; omega
                  · obtain rfl : q = L.length := by omega
                    go_wp2
                    go_ret
                    exact ⟨rfl, hB3.out.trans (HB4.out.mono hB3.out.size)⟩
end Go.Proofs.Qxb6606210aDoor
