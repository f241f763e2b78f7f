import Derived.Test.Qxb6003968aDoorWalkB
import Derived.Test.Qxb6003968aDoorPlain
set_option linter.unusedSimpArgs false
set_option linter.unusedVariables false
namespace Go.Proofs.Qxb6003968aDoor
open Go.RowKit

/-- The trimmed line, as a string. -/
def trB (s : ByteArray) : ByteArray := ⟨(Pl.tr s).toArray⟩
/-- The combined value of the n lines. -/
def cmB (S : Nat → ByteArray) (n : Nat) : ByteArray := ⟨(Pl.comb ((List.range n).map S)).toArray⟩

theorem grown_of_below {w w' : World} (h : Below w.heap.size w w') : w.grownBy w' none := ⟨h.os, h.tape, h.output, h.size, fun k hk _ => h.block k hk⟩

theorem cell_own {w : World} {B g n k : Nat} {S : Nat → ByteArray} (h : w.ownsRow B 9 1 (.slice (some ⟨g, 0, none⟩) n n) n (cl S n k)) (j : Nat) (hj : j < n) : w.cell? ⟨g, j, none⟩ = some (if j < k then Value.string (S j) else Value.string ⟨#[]⟩) := by
  rw [h.cellAt j (by omega), cl_get _ _ _ _ hj]

theorem own_lt {w : World} {B e s g n c : Nat} {xs : List Value} (h : w.ownsRow B e s (.slice (some ⟨g, 0, none⟩) n c) n xs) : g < w.heap.size := by
  rcases h.2 with ⟨h', _⟩ | ⟨g', cap', cur, h', _, hg, _⟩
  · simp at h'
  · simp only [Value.slice.injEq, Option.some.injEq, Addr.mk.injEq, and_true, true_and] at h'
    obtain ⟨rfl, rfl⟩ := h'
    exact (Array.getElem?_eq_some_iff.1 hg).1

set_option maxHeartbeats 1000000 in
theorem comb_many (hline : ∀ (s : ByteArray) (w : World), s.size ≤ 9223372036854775807 → Calls Tryd.prog 15 #[.string s] w fun e w' => e = .returned (.string (trB s)) ∧ Below w.heap.size w w')
    (hjoin : ∀ (bk n : Nat) (S : Nat → ByteArray) (w : World), bk < w.heap.size → n ≤ 1048576 → Pl.tot ((List.range n).map S) ≤ 1048576 → (∀ j, j < n → w.cell? ⟨bk, j, none⟩ = some (.string (trB (S j)))) →
      Calls Tryd.prog 16 #[.slice (some ⟨bk, 0, none⟩) n n, .string ⟨#[44, 32]⟩] w fun e w' => e = .returned (.string (cmB S n)) ∧ Below w.heap.size w w')
    (ao : Option Addr) (n c : Nat) (S : Nat → ByteArray) (w : World) (h1 : ((n : Int) == 1) = false) (hn : n ≤ 1048576) (ht : Pl.tot ((List.range n).map S) ≤ 1048576) (hS : StrsAt w ao n S)
    (hs : ∀ j, j < n → (S j).size ≤ 9223372036854775807) :
    Calls Tryd.prog 14 #[.slice ao n c] w fun e w' => e = .returned (.string (cmB S n)) ∧ Below w.heap.size w w' := by
  have HS : Hid (StrsAt w ao n S) := hS
  have HZ : Hid (∀ j, j < n → (S j).size ≤ 9223372036854775807) := hs
  have HJ : Hid _ := hjoin
  have HL : Hid _ := hline
  clear hS hs hjoin hline
  obtain ⟨i, hi, hz0, hz1, hz2⟩ := info_parts Tryd.info9
  go_enter Tryd.func14, Tryd.ntmps14
  go_wp2_with (at_make; refine wpList_make_full _ rfl _ _ 22 rfl w.heap.size 9 i (.string ⟨#[]⟩) 1 Tryd.underlying22 hi hz0 hz1 _ _ _ _ n rfl rfl rfl rfl ?b2 ?b3 ?b4 ?_)
  case b2 => rw [hz2]; omega
  case b3 => unfold maxLen; omega
  case b4 => exact Nat.le_refl _
  intro w1 hown hgrow
  clear hi hz0 hz1 hz2
  go_wp2
  go_loopw [18] (fun i wr => ∃ k : Nat, k ≤ n ∧ i = .int .i64 k ∧ wr.ownsRow w.heap.size 9 1 (.slice (some ⟨w.heap.size, 0, none⟩) n n) n (cl (fun j => trB (S j)) n k) ∧ Below w.heap.size w wr ∧ w.heap.size < wr.heap.size) (fun i _ => n - (intOf i).toNat)
  case atStart =>
    refine ⟨0, Nat.zero_le _, rfl, ?_, (Below.refl _ _).grown hgrow (Nat.le_refl _) (fun k h => by cases h), ?_⟩
    · rw [cl_zero, ← toList_madeCells_one]; exact hown
    · exact own_lt hown
  case round =>
    obtain ⟨k, hk, rfl, hrow, hbel, hsz⟩ := hrel
    by_cases hlt : k < n
    · obtain ⟨b, off, rfl, hb, hc⟩ := HS.out.pos hlt
      have hck : wr.cell? ⟨b, off + k, none⟩ = some (.string (S k)) := (hbel.cell (p := ⟨b, off + k, none⟩) hb).trans (hc k hlt)
      have hsk := HZ.out k hlt
      have HR : Hid (wr.ownsRow w.heap.size 9 1 (.slice (some ⟨w.heap.size, 0, none⟩) n n) n (cl (fun j => trB (S j)) n k)) := hrow
      clear hrow hown hgrow hc
      go_wp2_with fail
      refine (HL.out (S k) _ hsk).mono ?_
      rintro e w2 ⟨rfl, hb2⟩
      have hrow2 := HR.out.kept (grown_of_below hb2) (Or.inr (by simp [Value.ownBlock]))
      have hcc : w2.cell? ⟨w.heap.size, k, none⟩ = some (.string ⟨#[]⟩) := by rw [cell_own hrow2 k hlt, if_neg (Nat.lt_irrefl _)]
      have hcf : w2.frozen? ⟨w.heap.size, k, none⟩ = false := hrow2.frozenAt k
      have hst := hrow2.stored k (.string (trB (S k)))
      rw [cl_set (fun j => trB (S j))] at hst
      have HR2 : Hid ((w2.setCell ⟨w.heap.size, k, none⟩ (.string (trB (S k)))).ownsRow w.heap.size 9 1 (.slice (some ⟨w.heap.size, 0, none⟩) n n) n (cl (fun j => trB (S j)) n (k + 1))) := hst.1
      have HB2 := (hbel.trans (hb2.mono (Nat.le_of_lt hsz))).setCell (p := ⟨w.heap.size, k, none⟩) (Nat.le_refl _) (.string (trB (S k)))
      have hsz2 : w.heap.size < w2.heap.size := Nat.lt_of_lt_of_le hsz hb2.size
      clear hst hrow2 hb2 hck
      go_wp2
      go_roundw
      case rel => exact ⟨k + 1, by omega, by go_num, HR2.out, HB2, by simpa [World.setCell] using hsz2⟩
      case measure => simp [intOf]; omega
    · obtain rfl : k = n := by omega
      go_wp2_with fail
      refine (HJ.out w.heap.size k S _ hsz hn ht (fun j hj => by rw [cell_own hrow j hj, if_pos hj])).mono ?_
      rintro e w2 ⟨rfl, hb2⟩
      go_wp2
      go_ret
      exact ⟨rfl, hbel.trans (hb2.mono (Nat.le_of_lt hsz))⟩

set_option maxHeartbeats 1000000 in
theorem comb_single (hline : ∀ (s : ByteArray) (w : World), s.size ≤ 9223372036854775807 → Calls Tryd.prog 15 #[.string s] w fun e w' => e = .returned (.string (trB s)) ∧ Below w.heap.size w w')
    (b off c : Nat) (s : ByteArray) (w : World) (hs : s.size ≤ 9223372036854775807) (hc : w.cell? ⟨b, off, none⟩ = some (.string s)) :
    Calls Tryd.prog 14 #[.slice (some ⟨b, off, none⟩) 1 c] w fun e w' => e = .returned (.string (trB s)) ∧ Below w.heap.size w w' := by
  have HL : Hid _ := hline
  clear hline
  go_enter Tryd.func14, Tryd.ntmps14
  go_wp2_with fail
  refine (HL.out s _ hs).mono ?_
  rintro e w2 ⟨rfl, hb2⟩
  go_wp2
  go_ret
  exact ⟨rfl, hb2⟩

theorem cmB_one (S : Nat → ByteArray) : cmB S 1 = trB (S 0) := by
  unfold cmB trB
  rw [show (List.range 1).map S = [S 0] from rfl, Pl.comb_one]

/-- combinedValue, whatever the number of lines. -/
theorem comb_any (hline : ∀ (s : ByteArray) (w : World), s.size ≤ 9223372036854775807 → Calls Tryd.prog 15 #[.string s] w fun e w' => e = .returned (.string (trB s)) ∧ Below w.heap.size w w')
    (hjoin : ∀ (bk n : Nat) (S : Nat → ByteArray) (w : World), bk < w.heap.size → n ≤ 1048576 → Pl.tot ((List.range n).map S) ≤ 1048576 → (∀ j, j < n → w.cell? ⟨bk, j, none⟩ = some (.string (trB (S j)))) →
      Calls Tryd.prog 16 #[.slice (some ⟨bk, 0, none⟩) n n, .string ⟨#[44, 32]⟩] w fun e w' => e = .returned (.string (cmB S n)) ∧ Below w.heap.size w w')
    (ao : Option Addr) (n c : Nat) (S : Nat → ByteArray) (w : World) (hn : n ≤ 1048576) (ht : Pl.tot ((List.range n).map S) ≤ 1048576) (hS : StrsAt w ao n S)
    (hs : ∀ j, j < n → (S j).size ≤ 9223372036854775807) :
    Calls Tryd.prog 14 #[.slice ao n c] w fun e w' => e = .returned (.string (cmB S n)) ∧ Below w.heap.size w w' := by
  by_cases h1 : n = 1
  · subst h1
    obtain ⟨b, off, rfl, hb, hc⟩ := hS.pos (k := 0) (by omega)
    rw [cmB_one]
    exact comb_single hline b off c (S 0) w (hs 0 (by omega)) (hc 0 (by omega))
  · exact comb_many hline hjoin ao n c S w (by simpa using (by omega : ¬ (n : Int) = 1)) hn ht hS hs

set_option maxHeartbeats 1000000 in
theorem comb9_any (hline : ∀ (s : ByteArray) (w : World), s.size ≤ 9223372036854775807 → Calls Tryd.prog 15 #[.string s] w fun e w' => e = .returned (.string (trB s)) ∧ Below w.heap.size w w')
    (hjoin : ∀ (bk n : Nat) (S : Nat → ByteArray) (w : World), bk < w.heap.size → n ≤ 1048576 → Pl.tot ((List.range n).map S) ≤ 1048576 → (∀ j, j < n → w.cell? ⟨bk, j, none⟩ = some (.string (trB (S j)))) →
      Calls Tryd.prog 16 #[.slice (some ⟨bk, 0, none⟩) n n, .string ⟨#[44, 32]⟩] w fun e w' => e = .returned (.string (cmB S n)) ∧ Below w.heap.size w w')
    (ao : Option Addr) (n c : Nat) (S : Nat → ByteArray) (w : World) (hn : n ≤ 1048576) (ht : Pl.tot ((List.range n).map S) ≤ 1048576) (hS : StrsAt w ao n S)
    (hs : ∀ j, j < n → (S j).size ≤ 9223372036854775807) :
    Calls Tryd.prog 9 #[.slice ao n c] w fun e w' => e = .returned (.string (cmB S n)) ∧ Below w.heap.size w w' := by
  have HC : Hid (Calls Tryd.prog 14 #[.slice ao n c] w fun e w' => e = .returned (.string (cmB S n)) ∧ Below w.heap.size w w') := comb_any hline hjoin ao n c S w hn ht hS hs
  clear hline hjoin hn ht hS hs
  go_enter Tryd.func9, Tryd.ntmps9
  go_wp2_with fail
  refine HC.out.mono ?_
  rintro e w2 ⟨rfl, hb2⟩
  go_wp2
  go_ret
  exact ⟨rfl, hb2⟩
end Go.Proofs.Qxb6003968aDoor
