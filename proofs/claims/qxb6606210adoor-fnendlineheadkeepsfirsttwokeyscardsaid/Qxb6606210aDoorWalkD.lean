import Derived.Test.Qxb6606210aDoorWalkC
set_option linter.unusedSimpArgs false
set_option linter.unusedVariables false
namespace Go.Proofs.Qxb6606210aDoor
open Go.RowKit Go.PlainAid

/-- unicode.asciiFold's entries. -/
def af (r : Nat) : Int := if r = 107 then 8490 else if r = 115 then 383 else if 65 ≤ r ∧ r ≤ 90 then (r : Int) + 32 else if 97 ≤ r ∧ r ≤ 122 then (r : Int) - 32 else r

/-- The two folding tables, as far as the walk reads them. -/
structure Folds (w : World) : Prop where
  size : 2 < w.heap.size
  af : ∀ r, r < 128 → w.cell? ⟨1, r, none⟩ = some (.int .u16 (af r))
  orb : ∃ ob oo oc, ob < w.heap.size ∧ w.cell? ⟨2, 0, none⟩ = some (.slice (some ⟨ob, oo, none⟩) 94 oc) ∧
    w.cell? ⟨ob, oo + 94, none⟩ = some (.int .u16 966) ∧ w.cell? ⟨ob, oo + 142, none⟩ = some (.int .u16 7296) ∧ w.cell? ⟨ob, oo + 166, none⟩ = some (.int .u16 7838) ∧
    w.cell? ⟨ob, oo + 178, none⟩ = some (.int .u16 8491) ∧ w.cell? ⟨ob, oo + 172, none⟩ = some (.int .u16 8163) ∧ w.cell? ⟨ob, oo + 176, none⟩ = some (.int .u16 8490) ∧
    w.cell? ⟨ob, oo + 174, none⟩ = some (.int .u16 8486) ∧ w.cell? ⟨ob, oo + 177, none⟩ = some (.int .u16 75)

theorem Folds.below {w w' : World} (h : Folds w) (hb : Below w.heap.size w w') : Folds w' := by
  obtain ⟨h1, h2, ob, oo, oc, h3, h4, c1, c2, c3, c4, c5, c6, c7, c8⟩ := h
  have hs := hb.size
  refine ⟨by omega, fun r hr => (hb.cell (p := ⟨1, r, none⟩) (show 1 < w.heap.size by omega)).trans (h2 r hr), ob, oo, oc, by omega, (hb.cell (p := ⟨2, 0, none⟩) (show 2 < w.heap.size by omega)).trans h4, ?_⟩
  exact ⟨(hb.cell (p := ⟨ob, oo + 94, none⟩) h3).trans c1, (hb.cell (p := ⟨ob, oo + 142, none⟩) h3).trans c2, (hb.cell (p := ⟨ob, oo + 166, none⟩) h3).trans c3, (hb.cell (p := ⟨ob, oo + 178, none⟩) h3).trans c4, (hb.cell (p := ⟨ob, oo + 172, none⟩) h3).trans c5,
    (hb.cell (p := ⟨ob, oo + 176, none⟩) h3).trans c6, (hb.cell (p := ⟨ob, oo + 174, none⟩) h3).trans c7, (hb.cell (p := ⟨ob, oo + 177, none⟩) h3).trans c8⟩

theorem af_range (r : Nat) (hr : r < 128) : 0 ≤ af r ∧ af r ≤ 8490 := by unfold af; repeat' split <;> try omega

set_option maxHeartbeats 2000000 in
set_option maxRecDepth 100000 in
theorem fold_ascii (r : Nat) (w : World) (hr : r < 128) (hF : Folds w) :
    Calls Tryd.prog 43 #[.int .i32 (r : Int)] w fun e w' => e = .returned (.int .i32 (af r)) ∧ w' = w := by
  have hc := hF.af r hr
  obtain ⟨h0, h1⟩ := af_range r hr
  clear hF
  generalize af r = x at *
  have hi : (r : Int) < 128 := by omega
  go_enter Tryd.func43, Tryd.ntmps43
  go_wp2
  go_ret
  exact ⟨rfl, rfl⟩

set_option maxHeartbeats 2000000 in
set_option maxRecDepth 100000 in
theorem fold_kelvin (w : World) (hF : Folds w) :
    Calls Tryd.prog 43 #[.int .i32 8490] w fun e w' => e = .returned (.int .i32 75) ∧ w' = w := by
  obtain ⟨_, _, ob, oo, oc, h3, h4, c1, c2, c3, c4, c5, c6, c7, c8⟩ := hF
  go_enter Tryd.func43, Tryd.ntmps43
  go_wp2
  refine wp_loop_rounds 8 ?_
  rw [rounds_succ]
  go_wp2
  rw [rounds_succ]
  go_wp2
  rw [rounds_succ]
  go_wp2
  rw [rounds_succ]
  go_wp2
  rw [rounds_succ]
  go_wp2
  rw [rounds_succ]
  go_wp2
  rw [rounds_succ]
  go_wp2
  rw [rounds_succ]
  go_wp2
  go_ret
  exact ⟨rfl, rfl⟩
end Go.Proofs.Qxb6606210aDoor
