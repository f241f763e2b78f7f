import Derived.Test.Qxb6003968aDoorShelf
import Derived.Test.Qxb6003968aDoorWalkE
set_option linter.unusedSimpArgs false
set_option linter.unusedVariables false
namespace Go.Proofs.Qxb6003968aDoor
open Go.RowKit Go.Shelf Go.Lib

set_option maxHeartbeats 1000000 in
theorem line_any (s : ByteArray) (w : World) (hs : s.size ≤ 9223372036854775807) :
    Calls Tryd.prog 15 #[.string s] w fun e w' => e = .returned (.string (trB s)) ∧ Below w.heap.size w w' := by
  have hcon := Any.strings_Trim_laid Tryd.lays160 (by kernel_rfl) s ⟨#[32, 9]⟩ w hs (by decide) (ascii_of_all (by decide))
  change Calls Tryd.prog 17 _ _ (fun e w' => e = .returned (.string (trB s)) ∧ Below w.heap.size w w') at hcon
  generalize trB s = r at hcon ⊢
  go_enter Tryd.func15, Tryd.ntmps15
  go_wp2_with (go_at_call 17; refine hcon.mono ?_; rintro e w' ⟨rfl, hB⟩)
  go_ret
  exact ⟨rfl, hB⟩

theorem join_any (bk n : Nat) (S : Nat → ByteArray) (w : World) (hbk : bk < w.heap.size) (hn : n ≤ 1048576) (ht : Pl.tot ((List.range n).map S) ≤ 1048576) (hc : ∀ j, j < n → w.cell? ⟨bk, j, none⟩ = some (.string (trB (S j)))) :
    Calls Tryd.prog 16 #[.slice (some ⟨bk, 0, none⟩) n n, .string ⟨#[44, 32]⟩] w fun e w' => e = .returned (.string (cmB S n)) ∧ Below w.heap.size w w' := by
  have hl : ((List.range n).map fun j => trB (S j)).length = n := by simp
  have hm : ((List.range n).map fun j => trB (S j)).map (·.data.toList) = ((List.range n).map S).map Pl.tr := by
    rw [List.map_map, List.map_map]
    exact List.map_congr_left fun j _ => by simp [trB]
  have hle := Pl.comb_le ((List.range n).map S)
  have h := Any.strings_Join Tryd.lays156 Tryd.Builder_Extra_156 bk 0 n ((List.range n).map fun j => trB (S j)) ⟨#[44, 32]⟩ w (fun j x hx => by
      rw [Nat.zero_add]
      have hj : j < n := by
        have := (List.getElem?_eq_some_iff.1 hx).1
        simpa using this
      rw [hc j hj]
      simp [hj] at hx
      rw [hx]) hbk (by rw [hl]; omega) (by rw [hl]; exact Nat.le_refl _) (by
      rw [hm]
      show (Pl.comb ((List.range n).map S)).length ≤ _
      simp at hle
      omega)
  rw [hm, hl] at h
  exact h

theorem combC : CombC := fun ao n c S w hn ht hS => by
  have hs : ∀ k, ∀ j, j < k → (S j).size ≤ totS S k := by
    intro k
    induction k with
    | zero => intro j hj; omega
    | succ k ih =>
      intro j hj
      show _ ≤ totS S k + (S k).size
      by_cases h : j = k
      · subst h; omega
      · have := ih j (by omega); omega
  exact comb9_any line_any join_any ao n c S w hn (by rw [tot_range]; exact ht) hS (fun j hj => by have := hs n j hj; omega)
end Go.Proofs.Qxb6003968aDoor
