import Derived.Test.Qxb6003968aDoorRows
import Derived.Test.Qxb6003968aDoorCards
import Derived.Test.Qxb6003968aDoorTie
import Derived.Test.Qxb6003968aDoorWalkE
import Derived.Test.Qxb6003968aDoorLib
import Derived.ProofKit
import Derived.Lay
import Derived.Deep.Strs
import Derived.SevenTiedAt
set_option linter.unusedSimpArgs false
set_option linter.unusedVariables false
namespace Go.Proofs.Qxb6003968aDoor
open Go.ChangeShapes Go.WideShapes Go.ChangeAt Go.RowKit

theorem Tryd.ownS : ownKnob Tryd.prog.godebug = none := by kernel_rfl
theorem Tryd.laidOutS : laidOutB Tryd.prog = true := by kernel_rfl
theorem Tryd.cells9S : Tryd.prog.cellsOf 9 = 1 := by kernel_rfl

/-- A slice of strings among the arguments, seen as a walk wants it. -/
theorem view {H : Type} {enc : TypeId × Value → H} {W : World} {base : Nat} {v : Value} {d : DataW H} {p : List MemPlace} (hv : Value.okWide Tryd.prog W .any base 22 v) (hlt : ∀ x ∈ p, x.block < W.heap.size)
    (h : DataW.Trod enc Tryd.prog W 0 (fun _ => true) true 22 v d p) : ∃ ao n c S, v = .slice ao n c ∧ n ≤ 9223372036854775807 ∧ StrsAt W ao n S ∧ ∀ j, j < n → (S j).size ≤ 9223372036854775807 := by
  obtain ⟨a0, len, cap, rfl⟩ := okWide_slice Tryd.underlying22 hv
  obtain ⟨fuel, hf⟩ := h
  rcases Go.Deep.open_strs Tryd.underlying22 Tryd.underlying9 Tryd.cells9S hf with ⟨hcs, hx⟩ | ⟨a, len', cap', m, Sx, hcs, _, hl, hm, hmm, hx, hcell⟩
  · simp [Value.cells] at hcs
    obtain ⟨rfl, rfl, rfl⟩ := hcs
    exact ⟨none, 0, 0, fun _ => ⟨#[]⟩, rfl, by omega, Or.inl rfl, fun j hj => by omega⟩
  · simp [Value.cells] at hcs
    obtain ⟨rfl, rfl, rfl⟩ := hcs
    simp only [if_true] at hmm
    subst hmm
    unfold maxLen at hm
    refine ⟨some a, len, m, Sx, rfl, by omega, ?_, fun j hj => by have := (hcell j (by omega)).2; unfold maxLen at this; exact this⟩
    by_cases h0 : len = 0
    · exact Or.inl h0
    · obtain ⟨b, off, spot⟩ := a
      have hspot : spot = none := by simpa [Addr.add] using World.cell?_spot (hcell 0 (by omega)).1
      subst hspot
      refine Or.inr ⟨b, off, rfl, ?_, fun j hj => by rw [← Go.WideShapes.add_plain]; exact (hcell j (by omega)).1⟩
      have h1 := (hcell 0 (by omega)).1
      have h2 : W.cell? ⟨b, off, none⟩ = some (.string (Sx 0)) := by simpa [Addr.add] using h1
      unfold World.cell? at h2
      by_cases hb : b < W.heap.size
      · exact hb
      · simp [Array.getElem?_eq_none (by omega : W.heap.size ≤ b)] at h2

set_option maxRecDepth 100000 in
theorem split_lifted (hcomb : CombC) (os : Os) (started : os.Started) (H : Type) (enc : TypeId × Value → H) :
    ReturnsInHanded {} Tryd.checked os 3 .any (fun w args => (Rows.fnCombinedValueSplitsAtAnyCutSpec.pre enc Tryd.prog Tryd.f3 [] false w args ∧ laidMetH Tryd.prog Rows.fnCombinedValueSplitsAtAnyCutRow.laid w) ∧ sizedMet enc Tryd.prog Tryd.f3 (OpenSpec.ofChange Rows.fnCombinedValueSplitsAtAnyCutSpec) false w args)
      (Rows.fnCombinedValueSplitsAtAnyCutSpec.post enc Tryd.prog Tryd.f3 false true false false) := by
  refine returnsInHanded_of_change_and (C := Tryd.checked) (X := fun w _ => laidMetH Tryd.prog Rows.fnCombinedValueSplitsAtAnyCutRow.laid w) (fun _ _ _ hh h => h.of_heap hh) Tryd.ownS started (by kernel_rfl) Tryd.func3
    (ChangeSpec.witness_shaped (enc := enc) (C := Tryd.checked) (os := os) (X := fun w _ => laidMetH Tryd.prog Rows.fnCombinedValueSplitsAtAnyCutRow.laid w) false (World.laidAll Tryd.prog os Rows.fnCombinedValueSplitsAtAnyCutRow.laid) #[.slice none 0 0, .slice none 0 0] 8 (World.laidAll_os _ _ _)
      (World.shaped_of_ZipB (by kernel_rfl) (by kernel_rfl)) (by kernel_rfl) (by kernel_rfl) (by kernel_rfl)
      (by rw [MakeChecks.laidMetH_plain _ _ _ (by kernel_rfl)]; exact laidMet_laidAll _ (by kernel_rfl) (by kernel_rfl))) ?_
  intro W base args ds gs before hval0 hW _ _ hL _
  have hval : ∀ (j : Nat) t v, Tryd.f3.params[j]? = some t → args[j]? = some v → Value.okWide Tryd.prog W .any base t v := hval0
  have hW' := hW
  obtain ⟨p, q, hA0, hV, rfl, _, _⟩ := hW
  have hA : DataW.TrodAll enc Tryd.prog W 0 (fun _ => true) true Tryd.f3.params.toList args.toList ds p := hA0
  rw [Tryd.params3] at hA hval
  obtain ⟨v0, v1, d0, d1, p0, p1, rfl, rfl, rfl, h0, h1⟩ := trodAll_two hA
  obtain ⟨rfl, rfl⟩ := trodVars_none hV
  simp only [List.append_nil] at hW'
  have hlt : ∀ x ∈ p0 ++ p1, x.block < W.heap.size := fun x hx => by simpa using hW'.lt x hx
  have hlt0 : ∀ x ∈ p0, x.block < W.heap.size := fun x hx => hlt x (List.mem_append_left _ hx)
  have hlt1 : ∀ x ∈ p1, x.block < W.heap.size := fun x hx => hlt x (List.mem_append_right _ hx)
  obtain ⟨ao, n, c, A, e0, hn, hSA, hzA⟩ := view (hval 0 22 v0 rfl rfl) hlt0 h0
  obtain ⟨bo, m, d, B, e1, hm, hSB, hzB⟩ := view (hval 1 22 v1 rfl rfl) hlt1 h1
  subst e0
  subst e1
  refine (split_any hcomb ao bo n c m d A B W hn hm hSA hSB hzA hzB).mono fun e W' ⟨he, hb⟩ => ?_
  subst he
  have hA' : DataW.TrodAll enc Tryd.prog W' 0 (fun b => decide (b < W.heap.size)) true [22, 22] [.slice ao n c, .slice bo m d] [d0, d1] (p0 ++ p1) :=
    trodAll_mk2 (Below.trod Tryd.laidOutS (by kernel_rfl) (of_decide_eq_true (by kernel_rfl)) h0 hb hlt0) (Below.trod Tryd.laidOutS (by kernel_rfl) (of_decide_eq_true (by kernel_rfl)) h1 hb hlt1)
  exact ⟨_, rfl, _, _, _, [], p0 ++ p1, [], hW', trodAll_mk1 (shut_bool Tryd.underlying4 _), hA', rfl, hb.frame _, fun h => by cases h⟩

theorem split_holds (hcomb : CombC) : Rows.FnCombinedValueSplitsAtAnyCutSaid :=
  OpenClaim.holds_of_wide 3 Tryd.f3 rfl rfl rfl rfl rfl rfl rfl ⟨rfl, rfl, rfl, rfl, rfl⟩ rfl rfl rfl rfl rfl (by kernel_rfl) Tryd.func3 (by kernel_rfl)
    (of_decide_eq_true (by kernel_rfl)) (by unfold Func.isWrapper; first | (rw [if_pos (by decide +kernel)]; kernel_rfl) | (rw [if_neg (by decide +kernel)]; exact ⟨rfl, rfl⟩))
    (fun os started H enc _ => split_lifted hcomb os started H enc)

theorem split_card (hcomb : CombC) : Rows.FnCombinedValueSplitsAtAnyCutCardSaid :=
  Claim7.holds_tied_plain_at .later [] [.data, .pinned] true _ false (split_holds hcomb) (fun _ h => by cases h) (by kernel_rfl) (fun _ h => by cases h) fnCombinedValueSplitsAtAnyCut_row_tie rfl ⟨rfl, rfl⟩ (by kernel_rfl) rfl
    (fun f fn hf hfn => by
      obtain rfl : f = 3 := Option.some.inj ((show Tryd.prog.funcNamed Rows.fnCombinedValueSplitsAtAnyCutRow.func = some 3 by kernel_rfl).symm.trans hf) |>.symm
      obtain rfl : fn = Tryd.f3 := (Option.some.inj (Tryd.func3.symm.trans hfn)).symm
      exact ⟨by kernel_rfl, fun j t ht => by
        rw [Tryd.params3] at ht
        have hm : t ∈ [22, 22] := by simpa using Array.mem_of_getElem? ht
        have hall : ([22, 22].all fun u => !Tryd.prog.wantsStandIn u) = true := by kernel_rfl
        exact (show Tryd.prog.wantsStandIn t = false by simpa using List.all_eq_true.1 hall t hm)⟩)
    (by kernel_rfl)

theorem split_card_holds : Rows.FnCombinedValueSplitsAtAnyCutCardSaid := split_card combC
end Go.Proofs.Qxb6003968aDoor
