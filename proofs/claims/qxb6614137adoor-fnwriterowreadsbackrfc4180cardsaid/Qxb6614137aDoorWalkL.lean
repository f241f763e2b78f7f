import Derived.Test.Qxb6614137aDoorWalkK
import Derived.Laws.CopyOwn
set_option linter.unusedSimpArgs false
set_option linter.unusedVariables false
namespace Go.Proofs.Qxb6614137aDoor
open Go.RowKit Go.PlainAid

theorem totS_mono (S : Nat → ByteArray) : ∀ {k n : Nat}, k ≤ n → totS S k ≤ totS S n
  | k, 0, h => by
    obtain rfl : k = 0 := by omega
    exact Nat.le_refl _
  | k, n + 1, h => by
    by_cases e : k = n + 1
    · subst e; exact Nat.le_refl _
    · have := totS_mono S (k := k) (n := n) (by omega)
      show _ ≤ totS S n + (S n).size
      omega

/-- The copy's cells. -/
theorem copy_strs (ao : Option Addr) (n c g : Nat) (S : Nat → ByteArray) (w w1 : World) (cur : List Value) (hS : StrsAt w ao n S) (hnn : ao ≠ none) (hcur : w1.heap[g]? = some (.cells cur.toArray 9 (0, 0))) (hsz : cur.length = n) (hg : w.heap.size ≤ g) (hb : Below w.heap.size w w1) :
    ∃ w2, (Builtin.copy_ #[22, 22] 3 #[.slice (some ⟨g, 0, none⟩) n n, .slice ao n c]).run Tryd.prog w1 = .ok (goInt n) w2 ∧ StrsAt w2 (some ⟨g, 0, none⟩) n S ∧ Below w.heap.size w w2 := by
  obtain ⟨i, hi, hz0, hz1, hz2⟩ := info_parts Tryd.info9
  have hk1 : (Tryd.prog.info? 9).map (·.size) = some 1 := by rw [hi]; simp [hz1]
  by_cases h0 : n = 0
  · subst h0
    exact ⟨w1, run_copy_none (P := Tryd.prog) w1 22 22 3 9 _ _ 0 0 0 c Tryd.underlying22 hk1 rfl, Or.inl rfl, hb⟩
  · obtain ⟨b, off, rfl, hlt, hc⟩ := hS.pos (k := 0) (by omega)
    have hl : (vs S n).length = n := by simp [vs]
    have := run_copy_row (P := Tryd.prog) w1 22 22 3 9 g 0 n n ⟨b, off, none⟩ n c cur.toArray 9 (vs S n) Tryd.underlying22 hk1 hcur (by simp [vs]) (fun j v hj => by
        have hjn : j < n := by
          have := (List.getElem?_eq_some_iff.1 hj).1
          simpa [vs] using this
        rw [Addr.add_lit]
        rw [hb.cell (p := ⟨b, off + j, none⟩) hlt, hc j hjn]
        simp [vs, hjn] at hj
        rw [hj]) (by simp [vs, hsz]) (by
        intro v hv
        simp [vs] at hv
        obtain ⟨_, _, rfl⟩ := hv
        rfl)
    rw [hl] at this
    refine ⟨_, this, ?_, below_setRow hb hg _⟩
    have hh := setRow_heap w1 g _ (List.take 0 cur.toArray.toList ++ vs S n ++ List.drop (0 + n) cur.toArray.toList).toArray 9 _ hcur
    refine Or.inr ⟨g, 0, rfl, lt_blk hh, fun j hj => ?_⟩
    simp only [World.cell?, hh]
    simp [vs, hj, hsz]

set_option maxHeartbeats 8000000 in
set_option maxRecDepth 100000 in
theorem law_any (ao : Option Addr) (n c : Nat) (S : Nat → ByteArray) (m : Int) (w : World) (hn : n ≤ 9223372036854775807) (hS : StrsAt w ao n S) (hnil : ao = none → n = 0) (hz : ∀ j, j < n → (S j).size ≤ 9223372036854775807)
    (hm : w.cell? ⟨1, 0, none⟩ = some (.int .i64 m)) (hl : 1 < w.heap.size) :
    Calls Tryd.prog 3 #[.slice ao n c] w fun e w' => e = .returned (.bool true) ∧ Below w.heap.size w w' := by
  have HS := hid hS
  have HM := hid hm
  have HZ := hid hz
  clear hS hm hz
  have he := fun w => run_neq_slice_nil_any (P := Tryd.prog) w 22 9 ao n c 0 0 Tryd.underlying22
  obtain ⟨i, hi, hz0, hz1, hz2⟩ := info_parts Tryd.info9
  go_enter Tryd.func3, Tryd.ntmps3
  go_wp2_with (go_at_call 4; refine (bytes_any ao n c S _ hn ?_ ?_).mono ?_)
  · exact HS.out
  · exact HZ.out
  rintro e w1 ⟨hsays, hw⟩
  replace hw := hw.symm
  subst hw
  rcases hsays.cases with ⟨rfl, hp⟩ | rfl
  · have HP := hid hp
    have hn2 : n ≤ 1048576 := by omega
    clear hsays hp
    cases ao with
    | none =>
      obtain rfl := hnil rfl
      clear hi hz0 hz1 hz2 hnil
      go_wp2
      go_loop [4, 5] (fun z i => z = .int .i64 0 ∧ i = .int .i64 0) (fun _ _ => 0)
      case atStart => exact ⟨rfl, rfl⟩
      case round =>
        obtain ⟨rfl, rfl⟩ := hrel
        have RA := hid (row_any none 0 c S m w (by omega) (fun k hk => by omega) (fun k hk => by
          obtain rfl : k = 0 := by omega
          simp [Wr]) (Or.inl rfl) hl HM.out)
        go_wp2_with (go_at_call 5; refine RA.out.mono ?_)
        rintro e w3 O rfl hO hb3
        have HL3 := hid hb3
        have hOe : O = ⟨#[10]⟩ := by
          apply ByteArray.ext
          apply Array.toList_inj.1
          rw [hO]
          rfl
        subst hOe
        clear hO hb3
        go_wp2
        go_ret
        exact ⟨rfl, HL3.out⟩
    | some a =>
      clear hnil
      by_cases h16 : n ≤ 65536
      · go_wp2_with (at_make; refine wpList_make_full _ rfl _ _ 22 rfl w.heap.size 9 i (.string ⟨#[]⟩) 1 Tryd.underlying22 hi hz0 hz1 _ _ _ _ n rfl rfl rfl rfl ?b2 ?b3 ?b4 ?_)
        case b2 => rw [hz2]; omega
        case b3 => unfold maxLen; omega
        case b4 => exact Nat.le_refl _
        intro w1 hown hgrow
        have hbel : Below w.heap.size w w1 := (Below.refl _ _).grown hgrow (Nat.le_refl _) (fun k h => by cases h)
        obtain ⟨cur, hcur, hsz⟩ : ∃ cur : List Value, w1.heap[w.heap.size]? = some (.cells cur.toArray 9 (0, 0)) ∧ cur.length = n := by
          rcases hown.2 with ⟨h', _⟩ | ⟨g', cap', cur, h', _, hg, _, _, hsz, _⟩
          · simp at h'
          · simp only [Value.slice.injEq, Option.some.injEq, Addr.mk.injEq, and_true, true_and] at h'
            obtain ⟨rfl, rfl⟩ := h'
            exact ⟨cur.toList, by simpa using hg, by simpa using hsz⟩
        obtain ⟨w2, hrun, hA2, hb2⟩ := copy_strs (some a) n c w.heap.size S w w1 cur HS.out (by simp) hcur hsz (Nat.le_refl _) hbel
        have HA2 := hid hA2
        have HL2 := hid hb2
        have hsz2 : 1 < w2.heap.size := Nat.lt_of_lt_of_le hl hb2.size
        clear hown hgrow hbel hcur hsz hA2 hb2 hi hz0 hz1 hz2 he
        go_wp2
        clear hrun
        go_loop [4, 5] (fun z i => ∃ k : Nat, k ≤ n ∧ i = .int .i64 k ∧ z = .int .i64 ((16 * k + totS S k : Nat) : Int) ∧ 16 * k + totS S k ≤ 1048576) (fun _ i => n - (intOf i).toNat)
        case atStart => exact ⟨0, Nat.zero_le _, rfl, rfl, by simp [totS]⟩
        case round =>
          obtain ⟨k, hk, rfl, rfl, hzk⟩ := hrel
          by_cases hlt : k < n
          · obtain ⟨b, off, e, hb, hc⟩ := HA2.out.pos hlt
            simp only [Option.some.injEq, Addr.mk.injEq, and_true] at e
            obtain ⟨rfl, rfl⟩ := e
            have hck := hc k hlt
            rw [Nat.zero_add] at hck
            have hszk := HZ.out k hlt
            have hszp : (S k).size ≤ 1048576 := by
              have h1 : totS S (k + 1) ≤ totS S n := totS_mono S hlt
              have h2 : totS S (k + 1) = totS S k + (S k).size := rfl
              have h3 := HP.out
              omega
            have ht : Hid (totS S (k + 1) = totS S k + (S k).size) := rfl
            clear hc
            go_wp2
            · go_ret
              exact ⟨rfl, HL2.out⟩
            · go_round
              case rel => exact ⟨k + 1, by omega, by go_num, by rw [ht.out]; go_num, by rw [ht.out]; omega⟩
              case measure => simp [intOf]; omega
          · obtain rfl : k = n := by omega
            have HWL : Hid (∀ j, j ≤ k → (Wr S j).length ≤ 16777215) := hid (fun j hj => by
              have h1 := Wr_len S j
              have h2 := totS_mono S hj
              omega)
            have HSL : Hid (∀ j, j < k → (S j).size ≤ 1048576) := hid (fun j hj => by
              have h1 : totS S (j + 1) ≤ totS S k := totS_mono S hj
              have h2 : totS S (j + 1) = totS S j + (S j).size := rfl
              omega)
            have hm2 : Hid (w2.cell? ⟨1, 0, none⟩ = some (.int .i64 m)) := hid ((HL2.out.cell (p := ⟨1, 0, none⟩) hl).trans HM.out)
            go_wp2_with (go_at_call 5; refine (row_any (some ⟨w.heap.size, 0, none⟩) k k S m _ h16 ?_ ?_ ?_ hsz2 ?_).mono ?_)
            · exact HSL.out
            · exact HWL.out
            · exact HA2.out
            · exact hm2.out
            rintro e w3 O rfl hO hb3
            have HO := hid hO
            have HL3 := hid (HL2.out.trans (hb3.mono HL2.out.size))
            have HA3 := hid (HA2.out.below hb3)
            clear hO hb3
            by_cases h0 : k = 0
            · subst h0
              have hOe : O = ⟨#[10]⟩ := by
                apply ByteArray.ext
                apply Array.toList_inj.1
                rw [HO.out]
                rfl
              subst hOe
              go_wp2
              go_ret
              exact ⟨rfl, HL3.out⟩
            · have hb0 : ((k : Int) == 0) = false := by rw [beq_eq_false_iff_ne]; omega
              have hOz : Hid (O.size ≤ 16777216) := hid (by
                rw [← size_list, HO.out, List.length_append, List.length_singleton]
                have := HWL.out k (Nat.le_refl _)
                omega)
              go_wp2_with (go_at_call 6; refine (parse_any S k O ?_ ?_ ?_ ?_ ?_ _).mono ?_)
              · exact HO.out
              · omega
              · omega
              · exact HSL.out
              · exact hOz.out
              rintro e w4 ⟨V, Q, rfl, hV, hQ, hb4⟩
              obtain ⟨gv, cv, rfl⟩ := Joins.ownsRow_form hV (by omega)
              obtain ⟨gq, cq, rfl⟩ := Joins.ownsRow_form hQ (by omega)
              have HL4 := hid (HL3.out.trans (hb4.mono HL3.out.size))
              have HA4 := hid (HA3.out.below hb4)
              have HCV : Hid (∀ j, j < k → w4.cell? ⟨gv, j, none⟩ = some (.string (S j))) := hid (fun j hj => by
                have := hV.cellAt j (by omega)
                simpa [vs, hj] using this)
              have HCQ : Hid (∀ j, j < k → w4.cell? ⟨gq, j, none⟩ = some (.bool (sp (S j)))) := hid (fun j hj => by
                have := hQ.cellAt j (by omega)
                simpa [qs, hj] using this)
              clear hV hQ hb4
              go_wp2
              go_loopw [10] (fun i wr => ∃ q : Nat, q ≤ k ∧ i = .int .i64 q ∧ Hid (wr.heap = w4.heap) ∧ Hid (Below w.heap.size w wr)) (fun i _ => k - (intOf i).toNat)
              case atStart => exact ⟨0, Nat.zero_le _, rfl, rfl, HL4.out⟩
              case round =>
                obtain ⟨q, hq, rfl, HH, HB⟩ := hrel
                by_cases hlt : q < k
                · obtain ⟨b, off, e, hb, hc⟩ := HA4.out.pos hlt
                  simp only [Option.some.injEq, Addr.mk.injEq, and_true] at e
                  obtain ⟨rfl, rfl⟩ := e
                  have d0 : wr.cell? ⟨w.heap.size, q, none⟩ = some (.string (S q)) := by
                    have := hc q hlt
                    rw [Nat.zero_add] at this
                    unfold World.cell? at this ⊢
                    rw [HH.out]
                    exact this
                  have d1 : wr.cell? ⟨gv, q, none⟩ = some (.string (S q)) := by
                    have := HCV.out q hlt
                    unfold World.cell? at this ⊢
                    rw [HH.out]
                    exact this
                  have d2 : wr.cell? ⟨gq, q, none⟩ = some (.bool (sp (S q))) := by
                    have := HCQ.out q hlt
                    unfold World.cell? at this ⊢
                    rw [HH.out]
                    exact this
                  have hzq := HSL.out q hlt
                  clear hc
                  go_wp2_with fail
                  go_quiet (fail)
                  go_wp2_with fail
                  have HAS := fun W => has_any (S q) W (by omega)
                  go_quiet ((go_at_call 7; exact (HAS _).mono fun _ _ h => ⟨h.1, _, h.2⟩))
                  go_wp2
                  go_roundw
                  case rel => exact ⟨q + 1, by omega, by go_num, HH.out, HB.out.trans ⟨rfl, rfl, rfl, Nat.le_refl _, fun _ _ => rfl⟩⟩
                  case measure => simp [intOf]; omega
                · obtain rfl : q = k := by omega
                  go_wp2
                  go_ret
                  exact ⟨rfl, HB.out⟩
      · go_wp2
        go_ret
        exact ⟨rfl, Below.refl _ _⟩
  · go_wp2
    go_ret
    exact ⟨rfl, Below.refl _ _⟩
end Go.Proofs.Qxb6614137aDoor
