import Derived.Test.Qxb6003968aDoorWalkA
set_option linter.unusedSimpArgs false
set_option linter.unusedVariables false
namespace Go.Proofs.Qxb6003968aDoor
open Go.RowKit

theorem Tryd.info9 : (Tryd.prog.info? 9).map (fun i => (i.zero, i.size, i.bytes)) = some (some (.string ⟨#[]⟩), 1, 16) := by kernel_rfl

/-- The first k of n cells hold S's strings, the others the empty string. -/
def cl (S : Nat → ByteArray) (n k : Nat) : List Value := (List.range n).map fun j => if j < k then Value.string (S j) else Value.string ⟨#[]⟩
theorem cl_zero (S : Nat → ByteArray) (n : Nat) : cl S n 0 = List.replicate n (Value.string ⟨#[]⟩) := by
  unfold cl
  simp [List.map_const']
theorem cl_get (S : Nat → ByteArray) (n k j : Nat) (hj : j < n) : (cl S n k)[j]? = some (if j < k then Value.string (S j) else Value.string ⟨#[]⟩) := by
  unfold cl
  simp [hj]
theorem cl_set (S : Nat → ByteArray) (n k : Nat) : (cl S n k).set k (.string (S k)) = cl S n (k + 1) := by
  apply List.ext_getElem?
  intro j
  by_cases hj : j < n
  · rw [cl_get _ _ _ _ hj, List.getElem?_set]
    by_cases hk : k = j
    · subst hk
      simp [cl, hj]
    · rw [if_neg hk, cl_get _ _ _ _ hj]
      by_cases h1 : j < k
      · rw [if_pos h1, if_pos (by omega)]
      · rw [if_neg h1, if_neg (by omega)]
  · simp [cl, hj]

set_option maxHeartbeats 1000000 in
theorem clone_any (b off n c : Nat) (S : Nat → ByteArray) (w : World) (h0 : 0 < n) (hn : n ≤ 1048576) (hb : b < w.heap.size)
    (hc : ∀ j, j < n → w.cell? ⟨b, off + j, none⟩ = some (.string (S j))) :
    Calls Tryd.prog 8 #[.slice (some ⟨b, off, none⟩) n c] w fun e w' => e = .returned (.slice (some ⟨w.heap.size, 0, none⟩) n n) ∧ w'.ownsRow w.heap.size 9 1 (.slice (some ⟨w.heap.size, 0, none⟩) n n) n (cl S n n) ∧ Below w.heap.size w w' := by
  have he := fun w => Lib.run_eql_slice_nil (P := Tryd.prog) w 22 9 (some ⟨b, off, none⟩) n c 0 0 Tryd.underlying22
  obtain ⟨i, hi, hz0, hz1, hz2⟩ := info_parts Tryd.info9
  go_enter Tryd.func8, Tryd.ntmps8
  go_wp2_with (at_make; refine wpList_make_full _ rfl _ _ 22 rfl w.heap.size 9 i (.string ⟨#[]⟩) 1 Tryd.underlying22 hi hz0 hz1 _ _ _ _ n rfl rfl rfl rfl ?b2 ?b3 ?b4 ?_)
  case b2 => rw [hz2]; omega
  case b3 => unfold maxLen; omega
  case b4 => exact Nat.le_refl _
  intro w1 hown hgrow
  go_wp2
  go_loopw [4] (fun i wr => ∃ k : Nat, k ≤ n ∧ i = .int .i64 k ∧ wr.ownsRow w.heap.size 9 1 (.slice (some ⟨w.heap.size, 0, none⟩) n n) n (cl S n k) ∧ Below w.heap.size w wr) (fun i _ => n - (intOf i).toNat)
  case atStart =>
    refine ⟨0, Nat.zero_le _, rfl, ?_, (Below.refl _ _).grown hgrow (Nat.le_refl _) (fun k h => by cases h)⟩
    rw [cl_zero, ← toList_madeCells_one]; exact hown
  case round =>
    obtain ⟨k, hk, rfl, hrow, hbel⟩ := hrel
    by_cases hlt : k < n
    · have hck : wr.cell? ⟨b, off + k, none⟩ = some (.string (S k)) := (hbel.cell (p := ⟨b, off + k, none⟩) hb).trans (hc k hlt)
      have hcc : wr.cell? ⟨w.heap.size, k, none⟩ = some (.string ⟨#[]⟩) := by rw [hrow.cellAt k (by omega), cl_get _ _ _ _ hlt, if_neg (Nat.lt_irrefl _)]
      have hcf : wr.frozen? ⟨w.heap.size, k, none⟩ = false := hrow.frozenAt k
      have hst := hrow.stored k (.string (S k))
      rw [cl_set] at hst
      have HR : Hid ((wr.setCell ⟨w.heap.size, k, none⟩ (.string (S k))).ownsRow w.heap.size 9 1 (.slice (some ⟨w.heap.size, 0, none⟩) n n) n (cl S n (k + 1))) := hst.1
      have HB := hbel.setCell (p := ⟨w.heap.size, k, none⟩) (Nat.le_refl _) (.string (S k))
      clear hst hrow hown hgrow hc
      go_wp2
      go_roundw
      case rel => exact ⟨k + 1, by omega, by go_num, HR.out, HB⟩
      case measure => simp [intOf]; omega
    · obtain rfl : k = n := by omega
      go_wp2
      go_ret
      exact ⟨rfl, hrow, hbel⟩
end Go.Proofs.Qxb6003968aDoor
