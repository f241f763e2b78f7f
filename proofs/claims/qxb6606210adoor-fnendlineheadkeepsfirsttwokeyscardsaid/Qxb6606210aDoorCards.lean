/-
  DERIVED. GIVEN WITH THE SEED: THE CARDS: each row of Qxb6606210aDoorRows.lean that lists a variable, with what it lists TIED to the program's text (the seventh form; the later family's looks); each row that meets fmt, with fmt's text TOLD by the authors' own Lean function (tested against real Go, not proved from fmt's source: count such statements apart). THE CARD IS WHAT COUNTS. Prove the row's statement (the work); the ties are given (Qxb6606210aDoorTie.lean); close each card by the builder's one call (the guide's Derived/Test/ToyasCard.lean, 'card_holds'). Laid BY PROGRAM, IN A SANDBOX (cutbox-door.mjs). By AI agents, Wed Nov 11 2026. No macro, syntax, notation, axiom, sorry.
-/
import Derived.Test.Qxb6606210aDoorRows
import GoSem.ClaimSeven
namespace Go.Proofs.Qxb6606210aDoor
namespace Rows

/-- THE TIED CARD OF 'zzlaws_internal_idempotency_b1.FnEndLineFollowsCaseTable'. -/
def fnEndLineFollowsCaseTableCard : Claim7 := { stood := { row := fnEndLineFollowsCaseTableRow, standIns := [], harness := (true, "0369fb69f8010f4f60331648f26a89bc6e622e0d6dae1861fa8981bad2f6e70c"), looks := false }, kinds := [], alts := [], laidByText := true, laidKinds := [.data, .data, .data, .pinned, .pinned], laidTests := true, laidLooks := .later }
def FnEndLineFollowsCaseTableCardSaid : Prop := Claim7.holds Tryd.pinned (.plain (OpenSpec.ofChange fnEndLineFollowsCaseTableSpec)) fnEndLineFollowsCaseTableCard

/-- THE TIED CARD OF 'zzlaws_internal_idempotency_b1.FnEndLineHeadKeepsFirstTwoKeys'. -/
def fnEndLineHeadKeepsFirstTwoKeysCard : Claim7 := { stood := { row := fnEndLineHeadKeepsFirstTwoKeysRow, standIns := [], harness := (true, "0369fb69f8010f4f60331648f26a89bc6e622e0d6dae1861fa8981bad2f6e70c"), looks := false }, kinds := [], alts := [], laidByText := true, laidKinds := [.data, .data, .data, .pinned, .pinned], laidTests := true, laidLooks := .later }
def FnEndLineHeadKeepsFirstTwoKeysCardSaid : Prop := Claim7.holds Tryd.pinned (.plain (OpenSpec.ofChange fnEndLineHeadKeepsFirstTwoKeysSpec)) fnEndLineHeadKeepsFirstTwoKeysCard

/-- THE TIED CARD OF 'zzlaws_internal_idempotency_b1.FnAppendExponentIsExactSum'. -/
def fnAppendExponentIsExactSumCard : Claim7 := { stood := { row := fnAppendExponentIsExactSumRow, standIns := [], harness := (true, "0369fb69f8010f4f60331648f26a89bc6e622e0d6dae1861fa8981bad2f6e70c"), looks := false }, kinds := [], alts := [], laidByText := true, laidKinds := [.data, .data, .data, .data, .pinned], laidTests := true, laidLooks := .later }
def FnAppendExponentIsExactSumCardSaid : Prop := Claim7.holds Tryd.pinned (.plain (OpenSpec.ofChange fnAppendExponentIsExactSumSpec)) fnAppendExponentIsExactSumCard
end Rows
end Go.Proofs.Qxb6606210aDoor
