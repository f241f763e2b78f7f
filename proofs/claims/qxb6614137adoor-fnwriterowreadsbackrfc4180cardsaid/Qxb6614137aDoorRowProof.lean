import Derived.Test.Qxb6614137aDoorRows
import Derived.Test.Qxb6614137aDoorCards
import Derived.Test.Qxb6614137aDoorTie
import Derived.Test.Qxb6614137aDoorWalkL
import Derived.Shelf.Vars
import Derived.Test.Qxb6614137aDoorHanded
import Derived.ProofKit
import Derived.Lay
import Derived.Deep.Strs
import Derived.SevenTiedAt
set_option linter.unusedSimpArgs false
set_option linter.unusedVariables false
namespace Go.Proofs.Qxb6614137aDoor
open Go.ChangeShapes Go.WideShapes Go.ChangeAt Go.RowKit

theorem Tryd.ownS : ownKnob Tryd.prog.godebug = none := by kernel_rfl
theorem Tryd.laidOutS : laidOutB Tryd.prog = true := by kernel_rfl
theorem Tryd.cells9S : Tryd.prog.cellsOf 9 = 1 := by kernel_rfl

theorem lt_of_cell {w : World} {b o : Nat} {v : Value} (h : w.cell? ⟨b, o, none⟩ = some v) : b < w.heap.size := by
  unfold World.cell? at h
  by_cases hb : b < w.heap.size
  · exact hb
  · simp [Array.getElem?_eq_none (by omega : w.heap.size ≤ b)] at h

set_option maxRecDepth 100000 in
/-- A slice of strings among the arguments, seen as a walk wants it. -/
theorem view {H : Type} {enc : TypeId × Value → H} {W : World} {base : Nat} {v : Value} {d : DataW H} {p : List MemPlace} (hv : Value.okWide Tryd.prog W .any base 22 v) (hlt : ∀ x ∈ p, x.block < W.heap.size)
    (h : DataW.Trod enc Tryd.prog W 0 (fun _ => true) true 22 v d p) : ∃ ao n c S, v = .slice ao n c ∧ n ≤ 9223372036854775807 ∧ StrsAt W ao n S ∧ (ao = none → n = 0) ∧ ∀ j, j < n → (S j).size ≤ 9223372036854775807 := by
  obtain ⟨a0, len, cap, rfl⟩ := okWide_slice Tryd.underlying22 hv
  obtain ⟨fuel, hf⟩ := h
  rcases Go.Deep.open_strs Tryd.underlying22 Tryd.underlying9 Tryd.cells9S hf with ⟨hcs, hx⟩ | ⟨a, len', cap', m, Sx, hcs, _, hl, hm, hmm, hx, hcell⟩
  · simp [Value.cells] at hcs
    obtain ⟨rfl, rfl, rfl⟩ := hcs
    exact ⟨none, 0, 0, fun _ => ⟨#[]⟩, rfl, by omega, Or.inl rfl, fun _ => rfl, fun j hj => by omega⟩
  · simp [Value.cells] at hcs
    obtain ⟨rfl, rfl, rfl⟩ := hcs
    simp only [if_true] at hmm
    subst hmm
    unfold maxLen at hm
    refine ⟨some a, len, m, Sx, rfl, by omega, ?_, (fun h => by cases h), fun j hj => by have := (hcell j (by omega)).2; unfold maxLen at this; exact this⟩
    by_cases h0 : len = 0
    · exact Or.inl h0
    · obtain ⟨b, off, spot⟩ := a
      have hspot : spot = none := by simpa [Addr.add] using World.cell?_spot (hcell 0 (by omega)).1
      subst hspot
      refine Or.inr ⟨b, off, rfl, ?_, fun j hj => by rw [← Go.WideShapes.add_plain]; exact (hcell j (by omega)).1⟩
      have h1 := (hcell 0 (by omega)).1
      have h2 : W.cell? ⟨b, off, none⟩ = some (.string (Sx 0)) := by simpa [Addr.add] using h1
      unfold World.cell? at h2
      by_cases hb : b < W.heap.size
      · exact hb
      · simp [Array.getElem?_eq_none (by omega : W.heap.size ≤ b)] at h2

set_option maxRecDepth 100000 in
theorem row_lifted (os : Os) (started : os.Started) (H : Type) (enc : TypeId × Value → H) :
    ReturnsInHanded {} Tryd.checked os 3 .any (fun w args => (Rows.fnWriteRowReadsBackRFC4180Spec.pre enc Tryd.prog Tryd.f3 [] false w args ∧ laidMetH Tryd.prog Rows.fnWriteRowReadsBackRFC4180Row.laid w) ∧ sizedMet enc Tryd.prog Tryd.f3 (OpenSpec.ofChange Rows.fnWriteRowReadsBackRFC4180Spec) false w args)
      (Rows.fnWriteRowReadsBackRFC4180Spec.post enc Tryd.prog Tryd.f3 false true false false) := by
  refine handed_both (C := Tryd.checked) (X := fun w _ => laidMetH Tryd.prog Rows.fnWriteRowReadsBackRFC4180Row.laid w) (fun _ _ _ hh h => h.of_heap hh) Tryd.ownS started (by kernel_rfl) Tryd.func3
    (ChangeSpec.witness_shaped (enc := enc) (C := Tryd.checked) (os := os) (X := fun w _ => laidMetH Tryd.prog Rows.fnWriteRowReadsBackRFC4180Row.laid w) false (World.laidAll Tryd.prog os Rows.fnWriteRowReadsBackRFC4180Row.laid) #[.slice none 0 0] 8 (World.laidAll_os _ _ _)
      (World.shaped_of_ZipB (by kernel_rfl) (by kernel_rfl)) (by kernel_rfl) (by kernel_rfl) (by kernel_rfl)
      (by rw [MakeChecks.laidMetH_plain _ _ _ (by kernel_rfl)]; exact laidMet_laidAll _ (by kernel_rfl) (by kernel_rfl))) ?_
  intro W base args ds gs before hval0 hW _ _ hL hsh
  have hval : ∀ (j : Nat) t v, Tryd.f3.params[j]? = some t → args[j]? = some v → Value.okWide Tryd.prog W .any base t v := hval0
  have hW' := hW
  obtain ⟨p, q, hA0, hV, rfl, _, _⟩ := hW
  have hA : DataW.TrodAll enc Tryd.prog W 0 (fun _ => true) true Tryd.f3.params.toList args.toList ds p := hA0
  rw [Tryd.params3] at hA hval
  obtain ⟨v0, d0, rfl, rfl, h0⟩ := trodAll_one hA
  obtain ⟨rfl, rfl⟩ := trodVars_none hV
  simp only [List.append_nil] at hW'
  have hlt0 : ∀ x ∈ p, x.block < W.heap.size := fun x hx => by simpa using hW'.lt x (by simpa using hx)
  obtain ⟨ao, n, c, S, e0, hn, hS, hnil, hz⟩ := view (hval 0 22 v0 rfl rfl) hlt0 h0
  subst e0
  obtain ⟨m, hm⟩ : ∃ m, W.cell? ⟨1, 0, none⟩ = some (.int .i64 m) := Go.Proofs.cell_of_shapedOpen_int (zero := #[.int .i64 0]) (t := 3) hsh (of_decide_eq_true (by kernel_rfl)) (by kernel_rfl) rfl (by kernel_rfl) (by kernel_rfl) Tryd.underlying3
  refine (law_any ao n c S m W hn hS hnil hz hm (lt_of_cell hm)).mono fun e W' ⟨he, hb⟩ => ?_
  subst he
  have hA' : DataW.TrodAll enc Tryd.prog W' 0 (fun b => decide (b < W.heap.size)) true [22] [.slice ao n c] [d0] p :=
    trodAll_mk1 (Below.trod Tryd.laidOutS (by kernel_rfl) (of_decide_eq_true (by kernel_rfl)) h0 hb hlt0)
  exact ⟨_, rfl, _, _, _, [], p, [], hW', trodAll_mk1 (shut_bool Tryd.underlying4 _), hA', rfl, hb.frame _, fun h => by cases h⟩

theorem row_holds : Rows.FnWriteRowReadsBackRFC4180Said :=
  OpenClaim.holds_of_wide 3 Tryd.f3 rfl rfl rfl rfl rfl rfl rfl ⟨rfl, rfl, rfl, rfl, rfl⟩ rfl rfl rfl rfl rfl (by kernel_rfl) Tryd.func3 (by kernel_rfl)
    (of_decide_eq_true (by kernel_rfl)) (by unfold Func.isWrapper; first | (rw [if_pos (by decide +kernel)]; kernel_rfl) | (rw [if_neg (by decide +kernel)]; exact ⟨rfl, rfl⟩))
    (fun os started H enc _ => row_lifted os started H enc)

theorem row_card_holds : Rows.FnWriteRowReadsBackRFC4180CardSaid :=
  Claim7.holds_tied_plain_at .later [] [.data, .sentinel, .pinned] true _ true row_holds (fun _ h => by cases h) (by kernel_rfl) (fun _ h => by cases h) fnWriteRowReadsBackRFC4180_row_tie rfl ⟨rfl, rfl⟩ (by kernel_rfl) rfl
    (fun f fn hf hfn => by
      obtain rfl : f = 3 := Option.some.inj ((show Tryd.prog.funcNamed Rows.fnWriteRowReadsBackRFC4180Row.func = some 3 by kernel_rfl).symm.trans hf) |>.symm
      obtain rfl : fn = Tryd.f3 := (Option.some.inj (Tryd.func3.symm.trans hfn)).symm
      exact ⟨by kernel_rfl, fun j t ht => by
        rw [Tryd.params3] at ht
        have hm : t ∈ [22] := by simpa using Array.mem_of_getElem? ht
        have hall : ([22].all fun u => !Tryd.prog.wantsStandIn u) = true := by kernel_rfl
        exact (show Tryd.prog.wantsStandIn t = false by simpa using List.all_eq_true.1 hall t hm)⟩)
    (by kernel_rfl)
end Go.Proofs.Qxb6614137aDoor
