import Derived.Test.Qxb6003968aDoorWalkD
set_option linter.unusedSimpArgs false
set_option linter.unusedVariables false
namespace Go.Proofs.Qxb6003968aDoor
open Go.RowKit

theorem hid {p : Prop} (h : p) : Hid p := h

/-- The first k strings, as cells. -/
def vs (S : Nat → ByteArray) (k : Nat) : List Value := (List.range k).map fun j => Value.string (S j)
theorem vs_succ (S : Nat → ByteArray) (k : Nat) : vs S k ++ [.string (S k)] = vs S (k + 1) := by
  unfold vs
  rw [List.range_succ, List.map_append]
  rfl
/-- A's first n, then B's. -/
def ab (A B : Nat → ByteArray) (n : Nat) (j : Nat) : ByteArray := if j < n then A j else B (j - n)
theorem ab_left (A B : Nat → ByteArray) (n k : Nat) (h : k < n) : ab A B n k = A k := by unfold ab; rw [if_pos h]
theorem ab_right (A B : Nat → ByteArray) (n k : Nat) : ab A B n (n + k) = B k := by unfold ab; rw [if_neg (by omega), Nat.add_sub_cancel_left]

theorem StrsAt.later {w w' : World} {ao : Option Addr} {n : Nat} {S : Nat → ByteArray} (h : StrsAt w ao n S) (hb : Below w.heap.size w w') : StrsAt w' ao n S := by
  rcases h with h | ⟨b, off, h1, h2, h3⟩
  · exact Or.inl h
  · exact Or.inr ⟨b, off, h1, Nat.lt_of_lt_of_le h2 hb.size, fun j hj => (hb.cell (p := ⟨b, off + j, none⟩) h2).trans (h3 j hj)⟩

theorem StrsAt.later' {w w' : World} {B b n : Nat} {S : Nat → ByteArray} (h : StrsAt w (some ⟨b, 0, none⟩) n S) (hB : b < B) (hb : Below B w w') : StrsAt w' (some ⟨b, 0, none⟩) n S := by
  rcases h with h | ⟨b', off, h1, h2, h3⟩
  · exact Or.inl h
  · simp only [Option.some.injEq, Addr.mk.injEq, and_true] at h1
    obtain ⟨rfl, rfl⟩ := h1
    exact Or.inr ⟨b, 0, rfl, Nat.lt_of_lt_of_le h2 hb.size, fun j hj => (hb.cell (p := ⟨b, 0 + j, none⟩) hB).trans (h3 j hj)⟩

theorem StrsAt.cell0 {w : World} {b n : Nat} {S : Nat → ByteArray} (h : StrsAt w (some ⟨b, 0, none⟩) n S) (j : Nat) (hj : j < n) : w.cell? ⟨b, j, none⟩ = some (.string (S j)) := by
  obtain ⟨b', off, h1, h2, h3⟩ := h.pos hj
  simp only [Option.some.injEq, Addr.mk.injEq, and_true] at h1
  obtain ⟨rfl, rfl⟩ := h1
  simpa using h3 j hj

theorem strsAt_own {w : World} {B g n : Nat} {S : Nat → ByteArray} (h : w.ownsRow B 9 1 (.slice (some ⟨g, 0, none⟩) n n) n (cl S n n)) : StrsAt w (some ⟨g, 0, none⟩) n S :=
  Or.inr ⟨g, 0, rfl, own_lt h, fun j hj => by rw [Nat.zero_add, cell_own h j hj, if_pos hj]⟩

theorem strsAt_row {w : World} {B g n c : Nat} {S : Nat → ByteArray} (h : w.ownsRow B 9 1 (.slice (some ⟨g, 0, none⟩) n c) n (vs S n)) : StrsAt w (some ⟨g, 0, none⟩) n S :=
  Or.inr ⟨g, 0, rfl, own_lt h, fun j hj => by rw [Nat.zero_add, h.cellAt j (by omega)]; unfold vs; simp [hj]⟩

theorem Says.cases {p : Prop} {e : Ending} (h : Says p e) : (e = .returned (.bool true) ∧ p) ∨ e = .returned (.bool false) := by
  obtain ⟨r, rfl, hr⟩ := h
  cases r
  · exact Or.inr rfl
  · exact Or.inl ⟨rfl, hr rfl⟩

theorem tot_range (S : Nat → ByteArray) (n : Nat) : Pl.tot ((List.range n).map S) = totS S n := by
  induction n with
  | zero => rfl
  | succ n ih => rw [List.range_succ, List.map_append, Pl.tot_append, ih]; simp [Pl.tot, totS]

theorem ab_range (A B : Nat → ByteArray) (n m : Nat) : (List.range (n + m)).map (ab A B n) = (List.range n).map A ++ (List.range m).map B := by
  rw [List.range_add, List.map_append, List.map_map]
  congr 1
  · exact List.map_congr_left fun j hj => ab_left A B n j (List.mem_range.1 hj)
  · exact List.map_congr_left fun j hj => ab_right A B n j

theorem cmB_ab (A B : Nat → ByteArray) (n m : Nat) (hn : 0 < n) (hm : 0 < m) : (cmB (ab A B n) (n + m)).data.toList = (cmB A n).data.toList ++ [44, 32] ++ (cmB B m).data.toList := by
  unfold cmB
  rw [ab_range]
  simpa using Pl.comb_append ((List.range n).map A) ((List.range m).map B) (by simp; omega) (by simp; omega)

theorem cmB_size (S : Nat → ByteArray) (n : Nat) : (cmB S n).size ≤ 2 * n + totS S n := by
  have := Pl.comb_le ((List.range n).map S)
  rw [tot_range] at this
  simpa [cmB, ByteArray.size] using this

theorem cmB_eq (A B : Nat → ByteArray) (n m : Nat) (hn : 0 < n) (hm : 0 < m) : ((cmB (ab A B n) (n + m)).toList == (cmB A n ++ ⟨#[44, 32]⟩ ++ cmB B m).toList) = true := by
  have h : cmB (ab A B n) (n + m) = cmB A n ++ ⟨#[44, 32]⟩ ++ cmB B m := by
    apply ByteArray.ext
    apply Array.toList_inj.1
    rw [cmB_ab A B n m hn hm]
    simp
  rw [h]
  exact beq_self_eq_true _

theorem chain {w1 w2 w3 : World} {B : Nat} (h : Below B w1 w2) (k : Below w2.heap.size w2 w3) (hB : B ≤ w1.heap.size) : Below B w1 w3 :=
  h.trans (k.mono (Nat.le_trans hB h.size))

/-- The contract of ZZCombinedValue. -/
def CombC : Prop := ∀ (ao : Option Addr) (n c : Nat) (S : Nat → ByteArray) (w : World), n ≤ 1048576 → totS S n ≤ 1048576 → StrsAt w ao n S →
    Calls Tryd.prog 9 #[.slice ao n c] w fun e w' => e = .returned (.string (cmB S n)) ∧ Below w.heap.size w w'

set_option maxHeartbeats 1000000 in
theorem split_any (hcomb : CombC) (ao bo : Option Addr) (n c m d : Nat) (A B : Nat → ByteArray) (w : World) (hn : n ≤ 9223372036854775807) (hm : m ≤ 9223372036854775807)
    (hA : StrsAt w ao n A) (hB : StrsAt w bo m B) (sA : ∀ j, j < n → (A j).size ≤ 9223372036854775807) (sB : ∀ j, j < m → (B j).size ≤ 9223372036854775807) :
    Calls Tryd.prog 3 #[.slice ao n c, .slice bo m d] w fun e w' => e = .returned (.bool true) ∧ Below w.heap.size w w' := by
  have C6 := hid (bytes_any ao bo n c m d A B w hn hm hA hB sA sB)
  have C7 := hid (tooBig_any ao bo n c m d A B w hn hm hA hB sA sB)
  have HC : Hid CombC := hcomb
  have HA : Hid (StrsAt w ao n A) := hA
  have HB : Hid (StrsAt w bo m B) := hB
  clear hA hB sA sB hcomb
  go_enter Tryd.func3, Tryd.ntmps3
  go_wp2_with fail
  refine C6.out.mono ?_
  rintro e w' ⟨he, hw⟩
  replace hw := hw.symm; subst hw
  rcases he.cases with ⟨rfl, hP⟩ | rfl
  rotate_left
  · go_wp2
    go_ret
    exact ⟨rfl, Below.refl _ _⟩
  clear he
  go_wp2_with fail
  refine C7.out.mono ?_
  rintro e w' ⟨he, hw⟩
  replace hw := hw.symm; subst hw
  rcases he.cases with ⟨rfl, _⟩ | rfl
  · go_wp2
    go_ret
    exact ⟨rfl, Below.refl _ _⟩
  clear he
  by_cases hn0 : n = 0
  · have e0 : ((n : Int) == 0) = true := by simp [hn0]
    clear hn0
    go_wp2
    go_ret
    exact ⟨rfl, Below.refl _ _⟩
  have e0 : ((n : Int) == 0) = false := by simpa using hn0
  by_cases hm0 : m = 0
  · have e1 : ((m : Int) == 0) = true := by simp [hm0]
    clear hm0
    go_wp2
    go_ret
    exact ⟨rfl, Below.refl _ _⟩
  have e1 : ((m : Int) == 0) = false := by simpa using hm0
  have hnp : 0 < n := by omega
  have hmp : 0 < m := by omega
  clear hn0 hm0
  obtain ⟨ba, oa, rfl, hba, hca⟩ := HA.out.pos hnp
  obtain ⟨bb, ob, rfl, hbb, hcb⟩ := HB.out.pos hmp
  have D1 := hid (clone_any ba oa n c A w hnp (by omega) hba hca)
  have HB1 := hid hcb
  clear hca hcb
  go_wp2_with fail
  refine D1.out.mono ?_
  rintro e w1 ⟨rfl, hown1, hb1⟩
  have SA1 := hid (strsAt_own hown1)
  have hl1 := own_lt hown1
  have D2 := hid (clone_any bb ob m d B w1 hmp (by omega) (Nat.lt_of_lt_of_le hbb hb1.size) (fun j hj => (hb1.cell (p := ⟨bb, ob + j, none⟩) hbb).trans (HB1.out j hj)))
  clear hown1
  go_wp2_with fail
  refine D2.out.mono ?_
  rintro e w2 ⟨rfl, hown2, hb2⟩
  have SB2 := hid (strsAt_own hown2)
  have hl2 := own_lt hown2
  have SA2 := hid (SA1.out.later hb2)
  clear hown2 D1 D2 C6 C7 HB1 SA1
  obtain ⟨i, hi, hz0, hz1, hz2⟩ := info_parts Tryd.info9
  go_wp2_with (at_make; refine wpList_make_own _ rfl _ _ 22 rfl w2.heap.size 9 i (.string ⟨#[]⟩) 1 Tryd.underlying22 hi hz0 hz1 _ _ _ (n + m) rfl rfl ?hC ?b2 ?b3 ?b4 ?_)
  case hC => omega
  case b2 => rw [hz2]; omega
  case b3 => unfold maxLen; omega
  case b4 => exact Nat.le_refl _
  intro w3 hown3 hgrow3
  go_wp2
  go_loopw [5, 6] (fun v i wr => ∃ k : Nat, k ≤ n ∧ i = .int .i64 k ∧ v = .slice (some ⟨w2.heap.size, 0, none⟩) k (n + m) ∧ wr.ownsRow w2.heap.size 9 1 (.slice (some ⟨w2.heap.size, 0, none⟩) k (n + m)) k (vs (ab A B n) k) ∧ Below w2.heap.size w2 wr) (fun _ i _ => n - (intOf i).toNat)
  case atStart => exact ⟨0, Nat.zero_le _, rfl, rfl, hown3, (Below.refl _ _).grown hgrow3 (Nat.le_refl _) (fun k h => by cases h)⟩
  case round =>
    obtain ⟨k, hk, rfl, rfl, hrow, hbel⟩ := hrel
    by_cases hlt : k < n
    · have hck : wr.cell? ⟨w.heap.size, k, none⟩ = some (.string (A k)) := (SA2.out.later' (Nat.lt_of_lt_of_le hl1 hb2.size) hbel).cell0 k hlt
      clear hown3 hgrow3
      have hsz := own_lt hrow
      go_wp2_with (at_builtin; refine wpList_append_fits _ rfl (.tmp 39) (.tmp 44) 22 rfl w2.heap.size 9 i 1 Tryd.underlying22 hi hz1 w2.heap.size k (n + m) (vs (ab A B n) k) rfl (hrow.alloc _) ⟨wr.heap.size, 0, none⟩ 1 1 [.string (A k)] rfl rfl ?c1 ?c2 ?c3 ?_)
      case c1 => exact cell_one_new _ _ _
      case c2 => intro u hu; simp at hu; subst hu; rfl
      case c3 => omega
      intro w4 hown4 hgrow4
      rw [← ab_left A B n k hlt, vs_succ] at hown4
      go_wp2
      go_roundw
      case rel => exact ⟨k + 1, by omega, by go_num, rfl, hown4, (hbel.alloc (by omega) _).grown hgrow4 (by simp; omega) (fun k h => by cases h; exact Nat.le_refl _)⟩
      case measure => simp [intOf]; omega
    · obtain rfl : k = n := by omega
      obtain ⟨w5, rfl⟩ : ∃ w5 : World, w5 = wr := ⟨_, rfl⟩
      clear hown3 hgrow3
      go_wp2
      go_loopw [5, 7] (fun v i wr => ∃ j : Nat, j ≤ m ∧ i = .int .i64 j ∧ v = .slice (some ⟨w2.heap.size, 0, none⟩) (k + j) (k + m) ∧ wr.ownsRow w2.heap.size 9 1 (.slice (some ⟨w2.heap.size, 0, none⟩) (k + j) (k + m)) (k + j) (vs (ab A B k) (k + j)) ∧ Below w2.heap.size w2 wr) (fun _ i _ => m - (intOf i).toNat)
      case atStart => exact ⟨0, Nat.zero_le _, rfl, rfl, hrow, hbel⟩
      case round =>
        clear hrow hbel
        obtain ⟨j, hj, rfl, rfl, hrow, hbel⟩ := hrel
        by_cases hlt : j < m
        · have hck : wr.cell? ⟨w1.heap.size, j, none⟩ = some (.string (B j)) := (SB2.out.later' hl2 hbel).cell0 j hlt
          have hsz := own_lt hrow
          go_wp2_with (at_builtin; refine wpList_append_fits _ rfl (.tmp 52) (.tmp 57) 22 rfl w2.heap.size 9 i 1 Tryd.underlying22 hi hz1 w2.heap.size (k + j) (k + m) (vs (ab A B k) (k + j)) rfl (hrow.alloc _) ⟨wr.heap.size, 0, none⟩ 1 1 [.string (B j)] rfl rfl ?d1 ?d2 ?d3 ?_)
          case d1 => exact cell_one_new _ _ _
          case d2 => intro u hu; simp at hu; subst hu; rfl
          case d3 => omega
          intro w4 hown4 hgrow4
          rw [← ab_right A B k j, vs_succ] at hown4
          go_wp2
          go_roundw
          case rel => exact ⟨j + 1, by omega, by go_num, rfl, hown4, (hbel.alloc (by omega) _).grown hgrow4 (by simp; omega) (fun k h => by cases h; exact Nat.le_refl _)⟩
          case measure => simp [intOf]; omega
        · obtain rfl : j = m := by omega
          clear hi hz0 hz1 hz2
          have tab : totS (ab A B k) (k + j) = totS A k + totS B j := by
            rw [← tot_range, ← tot_range, ← tot_range, ab_range, Pl.tot_append]
          have K1 := hid (HC.out (some ⟨w2.heap.size, 0, none⟩) (k + j) (k + j) (ab A B k) wr (by omega) (by omega) (strsAt_row hrow))
          go_wp2_with fail
          refine K1.out.mono ?_
          rintro e w6 ⟨rfl, hb6⟩
          have SAr := SA2.out.later' (Nat.lt_of_lt_of_le hl1 hb2.size) hbel
          have SBr := SB2.out.later' hl2 hbel
          have SA6 := SAr.later hb6
          have SB6 := SBr.later hb6
          have K2 := hid (HC.out (some ⟨w.heap.size, 0, none⟩) k k A w6 (by omega) (by omega) SA6)
          clear SAr SBr SA6
          replace SB6 := hid SB6
          have z1 : ((cmB A k).size : Int) ≤ 4194304 := by have := cmB_size A k; omega
          have z2 : ((cmB B j).size : Int) ≤ 4194304 := by have := cmB_size B j; omega
          go_wp2_with fail
          refine K2.out.mono ?_
          rintro e w7 ⟨rfl, hb7⟩
          have K3 := hid (HC.out (some ⟨w1.heap.size, 0, none⟩) j j B w7 (by omega) (by omega) (SB6.out.later hb7))
          go_wp2_with fail
          refine K3.out.mono ?_
          rintro e w8 ⟨rfl, hb8⟩
          go_wp2
          go_ret
          exact ⟨ret_bool (cmB_eq A B k j hnp hmp), chain (chain (chain (chain (chain hb1 hb2 (Nat.le_refl _)) hbel (Nat.le_refl _)) hb6 (Nat.le_refl _)) hb7 (Nat.le_refl _)) hb8 (Nat.le_refl _)⟩
end Go.Proofs.Qxb6003968aDoor
