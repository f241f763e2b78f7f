import Derived.Test.Qxb6606097aDoorWalkI
import Derived.Test.Qxb6606097aDoorWalkC
set_option linter.unusedSimpArgs false
set_option linter.unusedVariables false
namespace Go.Proofs.Qxb6606097aDoor
open Go.RowKit Go.PlainAid

set_option maxHeartbeats 2000000 in
set_option maxRecDepth 100000 in
theorem closed_any (s u : ByteArray) (m : Int) (w : World) (hs0 : s.size ≤ 9223372036854775807) (hu0 : u.size ≤ 9223372036854775807) (hT : Tabs w) (hm : w.cell? ⟨0, 0, none⟩ = some (.int .i64 m)) (h0 : 0 < w.heap.size) :
    Calls Tryd.prog 4 #[.string s, .string u] w fun e w' => e = .returned (.bool true) ∧ Below w.heap.size w w' := by
  have C11 := hid (bytes11_any s u w hs0 hu0)
  have HM := hid hm
  have HT := hid hT
  clear hm hT
  have hb := get_bt u
  go_enter Tryd.func4, Tryd.ntmps4
  go_wp2_with fail
  refine C11.out.mono ?_
  rintro e w' ⟨he, hw⟩
  replace hw := hw.symm; subst hw
  rcases he.cases with ⟨rfl, hs⟩ | rfl
  rotate_left
  · go_wp2
    go_ret
    exact ⟨rfl, Below.refl _ _⟩
  clear he C11
  have z1 : (s.size : Int) ≤ 1048576 := by omega
  have z2 : (u.size : Int) ≤ 1048576 - (s.size : Int) := by omega
  by_cases hq39 : (0 : Int) < (u.size : Int) ∧ bt u 0 = 39
  · obtain ⟨hu1, hu2⟩ := hq39
    go_wp2
    go_ret
    exact ⟨rfl, Below.refl _ _⟩
  have ht : 0 < u.size → bt u 0 ≠ 39 := fun h1 h2 => hq39 ⟨by omega, h2⟩
  have hguard : ¬ (0 : Int) < (u.size : Int) ∨ ((0 : Int) < (u.size : Int) ∧ (bt u 0 == 39) = false) := by
    by_cases h : (0 : Int) < (u.size : Int)
    · exact Or.inr ⟨h, by rw [beq_eq_false_iff_ne]; exact ht (by omega)⟩
    · exact Or.inl h
  clear hq39
  have HQ := hid (quo_any s u m hs ht)
  have C8 := hid (quote_any s m w (by omega) HM.out h0)
  clear ht
  generalize quB s = q at HQ C8
  obtain ⟨i, hi, hz0, hz1, hz2⟩ := info_parts Tryd.info5
  have arms : ∃ (o : Nat) (f : Int) (g : Bool), Quo q u m o f g ∧ ((o = 0 ∧ f = 0 ∧ g = false) ∨ (o = 1 ∧ f = 1 ∧ g = true)) := by
    rcases HQ.out with h | h
    · exact ⟨0, 0, false, h, Or.inl ⟨rfl, rfl, rfl⟩⟩
    · exact ⟨1, 1, true, h, Or.inr ⟨rfl, rfl, rfl⟩⟩
  obtain ⟨o, f, g, Q, hof⟩ := arms
  have q1 := Q.pos
  have q2 := Q.le
  have q3 := Q.lt
  have q4 := Q.quote
  have q5 := Q.first
  have QQ := hid Q
  clear HQ Q
  have hbq := get_bt q
  have q1i : (0 : Int) < (q.size : Int) := by omega
  have q7 : ¬ q = ByteArray.empty := by intro h; rw [h] at q1; exact absurd q1 (by decide)
  rcases hof with ⟨rfl, rfl, rfl⟩ | ⟨rfl, rfl, rfl⟩ <;> rcases hguard with hg | ⟨hg1, hg2⟩
  all_goals
    go_wp2_with fail
    refine C8.out.mono ?_
    rintro e w1 ⟨rfl, hb1⟩
    have hl1 := hb1.size
    go_wp2_with (first
      | (at_make; refine wpList_make_own _ rfl _ _ 27 rfl w1.heap.size 5 i (.int .u8 0) 1 Tryd.underlying27 hi hz0 hz1 _ _ _ (q.size + u.size) rfl rfl (by omega) (by rw [hz2]; omega) (by unfold maxLen; omega) (Nat.le_refl _) ?_; intro w2 hown2 hgrow2)
      | (at_builtin; refine Lib.wpList_append_fits_string _ rfl (.tmp 40) (.tmp 41) 27 9 rfl w1.heap.size 5 i Tryd.underlying27 Tryd.underlying9 hi hz1 (some ⟨w1.heap.size, 0, none⟩) 0 (q.size + u.size) [] rfl hown2 q rfl (by omega) (by omega) ?_; intro w3 hown3 hgrow3; simp only [Nat.zero_add, List.nil_append] at hown3)
      | (at_builtin; refine Lib.wpList_append_fits_string _ rfl (.tmp 43) (.tmp 44) 27 9 rfl w1.heap.size 5 i Tryd.underlying27 Tryd.underlying9 hi hz1 (some ⟨w1.heap.size, 0, none⟩) q.size (q.size + u.size) (Lib.strCells q) rfl hown3 u rfl (by omega) (by omega) ?_; intro w4 hown4 hgrow4))
    have hl4 := own_lt hown4
    have hb24 : Below w1.heap.size w1 w4 := (((Below.refl _ _).grown hgrow2 (Nat.le_refl _) (fun k h => by cases h)).grown hgrow3 (by have := hgrow2.size; omega) (fun k h => by simp [Value.ownBlock] at h; omega)).grown hgrow4 (by have := hgrow2.size; have := hgrow3.size; omega) (fun k h => by simp [Value.ownBlock] at h; omega)
    have hb04 : Below w.heap.size w w4 := hb1.trans (hb24.mono hb1.size)
    have K := hid (QQ.out.close w1.heap.size (q.size + u.size) w4 (Nat.le_refl _) hl4 (HT.out.below hb04) (Nat.lt_of_lt_of_le h0 hb04.size) ((hb04.cell (p := ⟨0, 0, none⟩) h0).trans HM.out) (src_bytes q u hown4))
    refine K.out.mono ?_
    rintro e w5 ⟨rfl, hb5⟩
    clear K hown4 hown3 hown2 hgrow2 hgrow3 hgrow4
    go_wp2
    go_ret
    exact ⟨ret_bool (by rw [beq_iff_eq]; omega), hb04.trans (hb5.mono hb04.size)⟩
end Go.Proofs.Qxb6606097aDoor
