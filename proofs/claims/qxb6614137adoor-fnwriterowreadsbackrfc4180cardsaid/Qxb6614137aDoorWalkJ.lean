import Derived.Test.Qxb6614137aDoorWalkH
import Derived.Test.Qxb6614137aDoorWalkI
set_option linter.unusedSimpArgs false
set_option linter.unusedVariables false
namespace Go.Proofs.Qxb6614137aDoor
open Go.RowKit Go.PlainAid

theorem dbl_len : ∀ l : List UInt8, (dbl l).length ≤ 2 * l.length
  | [] => by simp [dbl]
  | c :: r => by
    have ih := dbl_len r
    have : (dq c).length ≤ 2 := by unfold dq; split <;> simp
    have e : dbl (c :: r) = dq c ++ dbl r := by simp [dbl]
    rw [e, List.length_append, List.length_cons]
    omega
theorem Wr_len (S : Nat → ByteArray) : ∀ k, (Wr S k).length ≤ 2 * totS S k + 3 * k
  | 0 => by simp [Wr]
  | k + 1 => by
    have ih := Wr_len S k
    have h1 : (sepB k).length ≤ 1 := by unfold sepB; split <;> simp
    have h2 : (enc (S k)).length ≤ 2 * (S k).size + 2 := by
      unfold enc
      have := dbl_len (S k).data.toList
      rw [size_list] at this
      split
      · simp; omega
      · rw [size_list]; omega
    show (Wr S k ++ (sepB k ++ enc (S k))).length ≤ 2 * (totS S k + (S k).size) + 3 * (k + 1)
    rw [List.length_append, List.length_append]
    omega

/-- T ++ U is what has been written so far. -/
def WS (w : World) (B bb kb rb cb : Nat) (L : List UInt8) : Prop := ∃ T U, BWn w B bb kb rb cb T U U.length ∧ T ++ U = L

theorem WS.cell {w : World} {B bb kb rb cb : Nat} {L : List UInt8} (h : WS w B bb kb rb cb L) : w.cell? ⟨cb, 0, none⟩ = some (.pointer (some ⟨kb, 0, none⟩)) := by
  obtain ⟨T, U, h, _⟩ := h
  exact h.cells.2.2.2.2.1

theorem WS.heap {w w' : World} {B bb kb rb cb : Nat} {L : List UInt8} (h : WS w B bb kb rb cb L) (hh : w'.heap = w.heap) : WS w' B bb kb rb cb L := by
  obtain ⟨T, U, h, e⟩ := h
  exact ⟨T, U, h.heap hh, e⟩

theorem BWn.kept {w w' : World} {B bb kb rb cb : Nat} {T U : List UInt8} {n : Nat} (h : BWn w B bb kb rb cb T U n) (hb : Below w.heap.size w w') : BWn w' B bb kb rb cb T U n := by
  obtain ⟨v, row, ⟨⟨hB, v0, lr, hbk, hown, hne⟩, ⟨lr', hv'⟩, hnil⟩, h2, h3, h4, h5⟩ := h
  have hg := grown_of_below hb
  refine ⟨v, row, ⟨⟨hB, v0, lr, (hb.block bb (lt_blk hbk)).trans hbk, hown.kept hg (own_none _), hne⟩, ⟨lr', (hb.block bb (lt_blk hbk)).trans hv'⟩, hnil⟩, (hb.block kb (lt_blk h2)).trans h2, ⟨(hb.block rb (lt_blk h3.1)).trans h3.1, h3.2⟩, (hb.block cb (lt_blk h4)).trans h4, h5⟩

theorem WS.kept {w w' : World} {B bb kb rb cb : Nat} {L : List UInt8} (h : WS w B bb kb rb cb L) (hb : Below w.heap.size w w') : WS w' B bb kb rb cb L := by
  obtain ⟨T, U, h, e⟩ := h
  exact ⟨T, U, h.kept hb, e⟩

theorem ws_byte (B bb kb rb cb : Nat) (L : List UInt8) (c : UInt8) (w : World) (h : WS w B bb kb rb cb L) (hlim : L.length ≤ 140737488355328) :
    Calls Tryd.prog 13 #[.pointer (some ⟨kb, 0, none⟩), .int .u8 (c.toNat : Int)] w fun e w' => e = .returned .nilIface ∧ WS w' B bb kb rb cb (L ++ [c]) ∧ Below B w w' := by
  obtain ⟨T, U, h, rfl⟩ := h
  refine (writeByte_any B bb kb rb cb T U c w h (by rw [List.length_append] at hlim; exact hlim)).mono ?_
  rintro e w' ⟨rfl, ⟨T', U', h', e'⟩, hb⟩
  exact ⟨rfl, ⟨T', U', h', e'⟩, hb⟩

theorem ws_str (B bb kb rb cb : Nat) (L : List UInt8) (s : ByteArray) (w : World) (h : WS w B bb kb rb cb L) (hlim : L.length + s.size ≤ 140737488355328) :
    Calls Tryd.prog 15 #[.pointer (some ⟨kb, 0, none⟩), .string s] w fun e w' => e = .returned (.tuple #[.int .i64 s.size, .nilIface]) ∧ WS w' B bb kb rb cb (L ++ s.data.toList) ∧ Below B w w' := by
  obtain ⟨T, U, h, rfl⟩ := h
  refine (writeString_bw B bb kb rb cb T U s w h (by rw [List.length_append] at hlim; exact hlim)).mono ?_
  rintro e w' ⟨rfl, ⟨T', U', h', e'⟩, hb⟩
  exact ⟨rfl, ⟨T', U', h', e'⟩, hb⟩

theorem countB_le (s : ByteArray) : Lib.countB s ⟨#[34]⟩ ≤ s.size := by
  have := Lib.countB_mul_le ⟨#[34]⟩ (by decide) s.size s (Nat.le_refl _)
  have e : (⟨#[34]⟩ : ByteArray).size = 1 := rfl
  rw [e, Nat.mul_one] at this
  exact this

/-- The string with each quote written twice. -/
def dblB (s : ByteArray) : ByteArray := ⟨(dbl s.data.toList).toArray⟩
theorem dblB_list (s : ByteArray) : (dblB s).data.toList = dbl s.data.toList := by simp [dblB]
theorem dblB_size (s : ByteArray) : (dblB s).size ≤ 2 * s.size := by
  rw [← size_list, dblB_list, ← size_list s]
  exact dbl_len _

theorem repl_any (s : ByteArray) (m : Int) (w : World) (hs : s.size ≤ 1048576) (hm : w.cell? ⟨1, 0, none⟩ = some (.int .i64 m)) :
    Calls Tryd.prog 16 #[.string s, .string ⟨#[34]⟩, .string ⟨#[34, 34]⟩] w fun e w' => e = .returned (.string (dblB s)) ∧ Below w.heap.size w w' := by
  have hc := countB_le s
  refine (Tryd.strings_ReplaceAll s ⟨#[34]⟩ ⟨#[34, 34]⟩ m w (by omega) hm (by decide) ?_).mono ?_
  · show s.size + Lib.countB s ⟨#[34]⟩ * 2 ≤ _
    omega
  · rintro e w' ⟨rfl, hb⟩
    refine ⟨?_, hb⟩
    have : Lib.replaceAll s.data.toList (⟨#[34]⟩ : ByteArray).data.toList (⟨#[34, 34]⟩ : ByteArray).data.toList = dbl s.data.toList := replace_dbl _
    rw [this]
    rfl

theorem after16 {w w3 w4 : World} {B bb kb rb cb : Nat} {L : List UInt8} (h : WS w3 B bb kb rb cb L) (hb : Below w3.drew.heap.size w3.drew w4) (hL : Below B w w3) (hB : B ≤ w.heap.size) :
    Hid (WS w4 B bb kb rb cb L) ∧ w4.cell? ⟨cb, 0, none⟩ = some (.pointer (some ⟨kb, 0, none⟩)) ∧ Hid (Below B w w4) := by
  have h4 : WS w4 B bb kb rb cb L := (h.heap (w' := w3.drew) rfl).kept hb
  exact ⟨h4, h4.cell, hL.drew.trans (hb.mono (Nat.le_trans hB hL.size))⟩

theorem Wr_plain (S : Nat → ByteArray) (k : Nat) (h : sp (S k) = false) : Wr S (k + 1) = Wr S k ++ sepB k ++ (S k).data.toList := by
  show Wr S k ++ (sepB k ++ enc (S k)) = _
  unfold enc
  rw [h]
  simp
theorem Wr_quoted (S : Nat → ByteArray) (k : Nat) (h : sp (S k) = true) : Wr S (k + 1) = Wr S k ++ sepB k ++ [34] ++ (dblB (S k)).data.toList ++ [34] := by
  show Wr S k ++ (sepB k ++ enc (S k)) = _
  unfold enc
  rw [h, dblB_list]
  simp

set_option maxHeartbeats 8000000 in
set_option maxRecDepth 100000 in
theorem write_row (B bb kb rb cb : Nat) (ao : Option Addr) (n c : Nat) (S : Nat → ByteArray) (m : Int) (w : World) (h : WS w B bb kb rb cb []) (hn : n ≤ 65536) (hS : ∀ k, k < n → (S k).size ≤ 1048576) (hW : ∀ k, k ≤ n → (Wr S k).length ≤ 16777216)
    (hBs : B ≤ w.heap.size) (hA : ∀ wr, Below B w wr → StrsAt wr ao n S) (hm : ∀ wr, Below B w wr → wr.cell? ⟨1, 0, none⟩ = some (.int .i64 m)) :
    Calls Tryd.prog 9 #[.pointer (some ⟨cb, 0, none⟩), .slice ao n c] w fun e w' => e = .returned (.tuple #[]) ∧ WS w' B bb kb rb cb (Wr S n ++ [10]) ∧ Below B w w' := by
  have HW0 := hid h
  have HS := hid hS
  have HW := hid hW
  have HA := hid hA
  have HM := hid hm
  have HBS := hid hBs
  clear h hS hW hA hm hBs
  go_enter Tryd.func9, Tryd.ntmps9
  go_wp2
  go_loopw [8] (fun i wr => ∃ k : Nat, k ≤ n ∧ i = .int .i64 k ∧ Hid (WS wr B bb kb rb cb (Wr S k)) ∧ Hid (Below B w wr)) (fun i _ => n - (intOf i).toNat)
  case atStart => exact ⟨0, Nat.zero_le _, rfl, HW0.out, Below.refl _ _⟩
  case round =>
    obtain ⟨k, hk, rfl, HR, HB⟩ := hrel
    have kc := HR.out.cell
    by_cases hlt : k < n
    · obtain ⟨b, off, rfl, hb, hcs⟩ := (HA.out wr HB.out).pos hlt
      have hck := hcs k hlt
      have hsz := HS.out k hlt
      have hwk := HW.out k hk
      have hwk1 := HW.out (k + 1) hlt
      clear hcs
      have HSP : Hid ((sepB k).length ≤ 1) := hid (by unfold sepB; split <;> simp)
      have HLN : Hid ((Wr S k ++ sepB k ++ [34]).length + (dblB (S k)).size ≤ 140737488355328) := hid (by
        have h1 := HSP.out
        have h2 := dblB_size (S k)
        rw [List.length_append, List.length_append, List.length_singleton]
        omega)
      have HLO : Hid ((Wr S k ++ sepB k ++ [34] ++ (dblB (S k)).data.toList).length ≤ 140737488355328) := hid (by
        have h1 := HLN.out
        rw [List.length_append, size_list]
        exact h1)
      by_cases hk0 : 0 < k
      · have HSE : Hid (sepB k = [44]) := hid (by unfold sepB; rw [if_pos hk0])
        go_wp2_with (go_at_call 13; refine (ws_byte B bb kb rb cb (Wr S k) 44 _ ?_ ?_).mono ?_)
        · exact HR.out
        · omega
        rintro e w1 ⟨rfl, h1, hb1⟩
        have kc1 := h1.cell
        rw [← HSE.out] at h1
        have H1 := hid h1
        have HL1 := hid (HB.out.trans hb1)
        clear h1 hb1
        go_wp2_with (go_at_call 14; refine (needs_any (S k) _ ?_).mono ?_)
        · omega
        rintro e w2 ⟨rfl, hw2⟩
        replace hw2 := hw2.symm
        subst hw2
        cases hsp : sp (S k) with
        | false =>
          go_wp2_with (go_at_call 15; refine (ws_str B bb kb rb cb (Wr S k ++ sepB k) (S k) _ ?_ ?_).mono ?_)
          · exact H1.out
          · have := HSP.out
            rw [List.length_append]
            omega
          rintro e w3 ⟨rfl, h3, hb3⟩
          have H3 := hid h3
          have HL3 := hid (HL1.out.trans hb3)
          clear h3 hb3
          have HE := hid (Wr_plain S k hsp)
          clear hsp
          go_wp2
          go_roundw
          case rel => exact ⟨k + 1, by omega, by go_num, by rw [HE.out]; exact H3.out, HL3.out⟩
          case measure => simp [intOf]; omega
        | true =>
          have HE := hid (Wr_quoted S k hsp)
          go_wp2_with (go_at_call 13; refine (ws_byte B bb kb rb cb (Wr S k ++ sepB k) 34 _ ?_ ?_).mono ?_)
          · exact H1.out
          · have := HSP.out
            rw [List.length_append]
            omega
          rintro e w3 ⟨rfl, h3, hb3⟩
          have kc3 := h3.cell
          have H3 := hid h3
          have HL3 := hid (HL1.out.trans hb3)
          clear h3 hb3
          have hm3 := HM.out w3 HL3.out
          go_wp2
          go_region_with (first
            | (go_at_call 16
               refine (repl_any (S k) m _ ?_ ?_).mono ?_
               exact hsz
               exact hm3
               rintro e w4 ⟨rfl, hb4⟩
               obtain ⟨H4, kc4, HL4⟩ := after16 H3.out hb4 HL3.out HBS.out
               clear hb4)
            | (go_at_call 15
               refine (ws_str B bb kb rb cb (Wr S k ++ sepB k ++ [34]) (dblB (S k)) _ ?_ ?_).mono ?_
               exact H4.out
               exact HLN.out
               rintro e w5 ⟨rfl, h5, hb5⟩
               have kc5 := h5.cell
               have H5 := hid h5
               have HL5 := hid (HL4.out.trans hb5)
               clear h5 hb5))
          all_goals (
            go_wp2_with (go_at_call 13; refine (ws_byte B bb kb rb cb (Wr S k ++ sepB k ++ [34] ++ (dblB (S k)).data.toList) 34 _ ?_ ?_).mono ?_)
            · exact H5.out
            · exact HLO.out
            rintro e w6 ⟨rfl, h6, hb6⟩
            have H6 := hid h6
            have HL6 := hid (HL5.out.trans hb6)
            clear h6 hb6
            go_wp2
            go_roundw
            case rel => exact ⟨k + 1, by omega, by go_num, by rw [HE.out]; exact H6.out, HL6.out⟩
            case measure => simp [intOf]; omega)
      · have HSE : Hid (sepB k = []) := hid (by unfold sepB; rw [if_neg hk0])
        have H1 : Hid (WS wr B bb kb rb cb (Wr S k ++ sepB k)) := hid (by rw [HSE.out, List.append_nil]; exact HR.out)
        go_wp2_with (go_at_call 14; refine (needs_any (S k) _ ?_).mono ?_)
        · omega
        rintro e w2 ⟨rfl, hw2⟩
        replace hw2 := hw2.symm
        subst hw2
        cases hsp : sp (S k) with
        | false =>
          go_wp2_with (go_at_call 15; refine (ws_str B bb kb rb cb (Wr S k ++ sepB k) (S k) _ ?_ ?_).mono ?_)
          · exact H1.out
          · have := HSP.out
            rw [List.length_append]
            omega
          rintro e w3 ⟨rfl, h3, hb3⟩
          have H3 := hid h3
          have HL3 := hid (HB.out.trans hb3)
          clear h3 hb3
          have HE := hid (Wr_plain S k hsp)
          clear hsp
          go_wp2
          go_roundw
          case rel => exact ⟨k + 1, by omega, by go_num, by rw [HE.out]; exact H3.out, HL3.out⟩
          case measure => simp [intOf]; omega
        | true =>
          have HE := hid (Wr_quoted S k hsp)
          go_wp2_with (go_at_call 13; refine (ws_byte B bb kb rb cb (Wr S k ++ sepB k) 34 _ ?_ ?_).mono ?_)
          · exact H1.out
          · have := HSP.out
            rw [List.length_append]
            omega
          rintro e w3 ⟨rfl, h3, hb3⟩
          have kc3 := h3.cell
          have H3 := hid h3
          have HL3 := hid (HB.out.trans hb3)
          clear h3 hb3
          have hm3 := HM.out w3 HL3.out
          go_wp2
          go_region_with (first
            | (go_at_call 16
               refine (repl_any (S k) m _ ?_ ?_).mono ?_
               exact hsz
               exact hm3
               rintro e w4 ⟨rfl, hb4⟩
               obtain ⟨H4, kc4, HL4⟩ := after16 H3.out hb4 HL3.out HBS.out
               clear hb4)
            | (go_at_call 15
               refine (ws_str B bb kb rb cb (Wr S k ++ sepB k ++ [34]) (dblB (S k)) _ ?_ ?_).mono ?_
               exact H4.out
               exact HLN.out
               rintro e w5 ⟨rfl, h5, hb5⟩
               have kc5 := h5.cell
               have H5 := hid h5
               have HL5 := hid (HL4.out.trans hb5)
               clear h5 hb5))
          all_goals (
            go_wp2_with (go_at_call 13; refine (ws_byte B bb kb rb cb (Wr S k ++ sepB k ++ [34] ++ (dblB (S k)).data.toList) 34 _ ?_ ?_).mono ?_)
            · exact H5.out
            · exact HLO.out
            rintro e w6 ⟨rfl, h6, hb6⟩
            have H6 := hid h6
            have HL6 := hid (HL5.out.trans hb6)
            clear h6 hb6
            go_wp2
            go_roundw
            case rel => exact ⟨k + 1, by omega, by go_num, by rw [HE.out]; exact H6.out, HL6.out⟩
            case measure => simp [intOf]; omega)
    · obtain rfl : k = n := by omega
      go_wp2_with (go_at_call 13; refine (ws_byte B bb kb rb cb (Wr S k) 10 _ ?_ ?_).mono ?_)
      · exact HR.out
      · have := HW.out k hk
        omega
      rintro e w1 ⟨rfl, h1, hb1⟩
      have H1 := hid h1
      have HL1 := hid (HB.out.trans hb1)
      clear h1 hb1
      go_wp2
      refine bodyPost_end (results_none rfl _ _ _) rfl ?_
      exact ⟨rfl, H1.out, HL1.out⟩
end Go.Proofs.Qxb6614137aDoor
