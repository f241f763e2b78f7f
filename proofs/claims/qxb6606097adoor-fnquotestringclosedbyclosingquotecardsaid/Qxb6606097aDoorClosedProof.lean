import Derived.Test.Qxb6606097aDoorRows
import Derived.Test.Qxb6606097aDoorCards
import Derived.Test.Qxb6606097aDoorTie
import Derived.Test.Qxb6606097aDoorWalkJ
import Derived.Test.Qxb6606097aDoorHanded
import Derived.ProofKit
import Derived.Lay
import Derived.PinnedBridge
import Derived.Lib.LaidU8
import Derived.SevenTiedAt
set_option linter.unusedSimpArgs false
set_option linter.unusedVariables false
namespace Go.Proofs.Qxb6606097aDoor
open Go.ChangeShapes Go.WideShapes Go.ChangeAt Go.RowKit
open Go.ChangeMaps (open_string shut_string)

theorem Tryd.ownC : ownKnob Tryd.prog.godebug = none := by kernel_rfl

theorem lt_of_cellC {w : World} {b o : Nat} {v : Value} (h : w.cell? ⟨b, o, none⟩ = some v) : b < w.heap.size := by
  unfold World.cell? at h
  by_cases hb : b < w.heap.size
  · exact hb
  · simp [Array.getElem?_eq_none (by omega : w.heap.size ≤ b)] at h

theorem u8extra : U8Extra Tryd.prog Tryd.lays260_ren := ⟨by kernel_rfl, by kernel_rfl, by kernel_rfl, by kernel_rfl, by kernel_rfl, by kernel_rfl, by kernel_rfl⟩

theorem accept_eq : (Rows.laid_unicode_utf8_acceptRanges : DataW Unit) = Lib.acceptData := by kernel_rfl

/-- utf8's two tables, out of what the row lists. -/
theorem tabs_of {W : World} (hL : laidMet Tryd.prog Rows.fnQuoteStringClosedByClosingQuoteRow.laid W) : Tabs W := by
  have r1 : Lib.VarReads Tryd.prog W _ _ := Lib.laidMet.reads hL (.head _)
  have r2 : Lib.VarReads Tryd.prog W _ _ := Lib.laidMet.reads hL (.tail _ (.head _))
  rw [accept_eq] at r1
  have e : Rows.laid_unicode_utf8_first = Lib.firstData := Pinned.utf8First_eq
  rw [e] at r2
  exact utf8Tabs_of_reads Tryd.lays260 u8extra r2 r1

set_option maxRecDepth 100000 in
theorem closed_lifted (os : Os) (started : os.Started) (H : Type) (enc : TypeId × Value → H) :
    ReturnsInHanded {} Tryd.checked os 4 .any (fun w args => (Rows.fnQuoteStringClosedByClosingQuoteSpec.pre enc Tryd.prog Tryd.f4 [] false w args ∧ laidMetH Tryd.prog Rows.fnQuoteStringClosedByClosingQuoteRow.laid w) ∧ sizedMet enc Tryd.prog Tryd.f4 (OpenSpec.ofChange Rows.fnQuoteStringClosedByClosingQuoteSpec) false w args)
      (Rows.fnQuoteStringClosedByClosingQuoteSpec.post enc Tryd.prog Tryd.f4 false true false false) := by
  refine handed_both (C := Tryd.checked) (X := fun w _ => laidMetH Tryd.prog Rows.fnQuoteStringClosedByClosingQuoteRow.laid w) (fun _ _ _ hh h => h.of_heap hh) Tryd.ownC started (by kernel_rfl) Tryd.func4
    (ChangeSpec.witness_shaped (enc := enc) (C := Tryd.checked) (os := os) (X := fun w _ => laidMetH Tryd.prog Rows.fnQuoteStringClosedByClosingQuoteRow.laid w) false (World.laidAll Tryd.prog os Rows.fnQuoteStringClosedByClosingQuoteRow.laid) #[.string ⟨#[]⟩, .string ⟨#[]⟩] 8 (World.laidAll_os _ _ _)
      (World.shaped_of_ZipB (by kernel_rfl) (by kernel_rfl)) (by kernel_rfl) (by kernel_rfl) (by kernel_rfl)
      (by rw [MakeChecks.laidMetH_plain _ _ _ (by kernel_rfl)]; exact laidMet_laidAll _ (by kernel_rfl) (by kernel_rfl))) ?_
  intro W base args ds gs before hval0 hW _ _ hL hsh
  have hval : ∀ (j : Nat) t v, Tryd.f4.params[j]? = some t → args[j]? = some v → Value.okWide Tryd.prog W .any base t v := hval0
  have hW' := hW
  obtain ⟨p, q, hA0, hV, rfl, _, _⟩ := hW
  have hA : DataW.TrodAll enc Tryd.prog W 0 (fun _ => true) true Tryd.f4.params.toList args.toList ds p := hA0
  rw [Tryd.params4] at hA hval
  obtain ⟨v0, v1, d0, d1, p0, p1, rfl, rfl, rfl, h0, h1⟩ := trodAll_two hA
  obtain ⟨rfl, rfl⟩ := trodVars_none hV
  obtain ⟨s, rfl, rfl, rfl, hs⟩ := open_string Tryd.underlying9 (hval 0 9 v0 rfl rfl) h0
  obtain ⟨u, rfl, rfl, rfl, hu⟩ := open_string Tryd.underlying9 (hval 1 9 v1 rfl rfl) h1
  simp only [List.append_nil] at hW'
  rw [MakeChecks.laidMetH_plain _ _ _ (by kernel_rfl)] at hL
  have hT : Tabs W := tabs_of hL
  obtain ⟨m, hm⟩ : ∃ m, W.cell? ⟨0, 0, none⟩ = some (.int .i64 m) := Tryd.laysM155.s1_3 W hsh
  refine (closed_any s u m W (by unfold maxLen at hs; exact hs) (by unfold maxLen at hu; exact hu) hT hm (lt_of_cellC hm)).mono fun e W' ⟨he, hb⟩ => ?_
  subst he
  exact ⟨_, rfl, _, _, _, [], [], [], hW', trodAll_mk1 (shut_bool Tryd.underlying4 _), trodAll_mk2 (shut_string Tryd.underlying9 hs) (shut_string Tryd.underlying9 hu), rfl, hb.frame _, fun h => by cases h⟩

theorem closed_holds : Rows.FnQuoteStringClosedByClosingQuoteSaid :=
  OpenClaim.holds_of_wide 4 Tryd.f4 rfl rfl rfl rfl rfl rfl rfl ⟨rfl, rfl, rfl, rfl, rfl⟩ rfl rfl rfl rfl rfl (by kernel_rfl) Tryd.func4 (by kernel_rfl)
    (of_decide_eq_true (by kernel_rfl)) (by unfold Func.isWrapper; first | (rw [if_pos (by decide +kernel)]; kernel_rfl) | (rw [if_neg (by decide +kernel)]; exact ⟨rfl, rfl⟩))
    (fun os started H enc _ => closed_lifted os started H enc)

theorem closed_card_holds : Rows.FnQuoteStringClosedByClosingQuoteCardSaid :=
  Claim7.holds_tied_plain_at .later [] [.data, .pinned] true _ true closed_holds (fun _ h => by cases h) (by kernel_rfl) (fun _ h => by cases h) fnQuoteStringClosedByClosingQuote_row_tie rfl ⟨rfl, rfl⟩ (by kernel_rfl) rfl
    (fun f fn hf hfn => by
      obtain rfl : f = 4 := Option.some.inj ((show Tryd.prog.funcNamed Rows.fnQuoteStringClosedByClosingQuoteRow.func = some 4 by kernel_rfl).symm.trans hf) |>.symm
      obtain rfl : fn = Tryd.f4 := (Option.some.inj (Tryd.func4.symm.trans hfn)).symm
      exact ⟨by kernel_rfl, fun j t ht => by
        rw [Tryd.params4] at ht
        have hm : t ∈ [9, 9] := by simpa using Array.mem_of_getElem? ht
        have hall : ([9, 9].all fun u => !Tryd.prog.wantsStandIn u) = true := by kernel_rfl
        exact (show Tryd.prog.wantsStandIn t = false by simpa using List.all_eq_true.1 hall t hm)⟩)
    (by kernel_rfl)
end Go.Proofs.Qxb6606097aDoor
