/-
  DERIVED. GIVEN WITH THE SEED: THE CARDS: each row of Qxb6606097aDoorRows.lean that lists a variable, with what it lists TIED to the program's text (the seventh form; the later family's looks); each row that meets fmt, with fmt's text TOLD by the authors' own Lean function (tested against real Go, not proved from fmt's source: count such statements apart). THE CARD IS WHAT COUNTS. Prove the row's statement (the work); the ties are given (Qxb6606097aDoorTie.lean); close each card by the builder's one call (the guide's Derived/Test/ToyasCard.lean, 'card_holds'). Laid BY PROGRAM, IN A SANDBOX (cutbox-door.mjs). By AI agents, Wed Nov 11 2026. No macro, syntax, notation, axiom, sorry.
-/
import Derived.Test.Qxb6606097aDoorRows
import GoSem.ClaimSeven
namespace Go.Proofs.Qxb6606097aDoor
namespace Rows

/-- THE TIED CARD OF 'zzlaws_root_b1.FnQuoteStringCanonicalRoundTrip'. -/
def fnQuoteStringCanonicalRoundTripCard : Claim7 := { stood := { row := fnQuoteStringCanonicalRoundTripRow, standIns := [], harness := (true, "e7d37cb86d3e7fdc1b169ffd02a65ed5175252ae1478831449357fd843240977"), looks := true }, kinds := [], alts := [], laidByText := true, laidKinds := [.data, .pinned], laidTests := true, laidLooks := .later }
def FnQuoteStringCanonicalRoundTripCardSaid : Prop := Claim7.holds Tryd.pinned (.plain (OpenSpec.ofChange fnQuoteStringCanonicalRoundTripSpec)) fnQuoteStringCanonicalRoundTripCard

/-- THE TIED CARD OF 'zzlaws_root_b1.FnQuoteStringClosedByClosingQuote'. -/
def fnQuoteStringClosedByClosingQuoteCard : Claim7 := { stood := { row := fnQuoteStringClosedByClosingQuoteRow, standIns := [], harness := (true, "e7d37cb86d3e7fdc1b169ffd02a65ed5175252ae1478831449357fd843240977"), looks := true }, kinds := [], alts := [], laidByText := true, laidKinds := [.data, .pinned], laidTests := true, laidLooks := .later }
def FnQuoteStringClosedByClosingQuoteCardSaid : Prop := Claim7.holds Tryd.pinned (.plain (OpenSpec.ofChange fnQuoteStringClosedByClosingQuoteSpec)) fnQuoteStringClosedByClosingQuoteCard

/-- THE TIED CARD OF 'zzlaws_root_b1.FnDecimalDigitsMonotoneInExponent'. -/
def fnDecimalDigitsMonotoneInExponentCard : Claim7 := { stood := { row := fnDecimalDigitsMonotoneInExponentRow, standIns := [], harness := (true, "e7d37cb86d3e7fdc1b169ffd02a65ed5175252ae1478831449357fd843240977"), looks := true }, kinds := [], alts := [], laidByText := true, laidKinds := [.data, .data, .data, .data, .sentinel, .sentinel, .pinned], laidTests := true, laidLooks := .later }
def FnDecimalDigitsMonotoneInExponentCardSaid : Prop := Claim7.holds Tryd.pinned (.plain (OpenSpec.ofChange fnDecimalDigitsMonotoneInExponentSpec)) fnDecimalDigitsMonotoneInExponentCard

/-- THE TIED CARD OF 'zzlaws_root_b1.FnClosingQuoteIgnoresWhatFollows'. -/
def fnClosingQuoteIgnoresWhatFollowsCard : Claim7 := { stood := { row := fnClosingQuoteIgnoresWhatFollowsRow, standIns := [], harness := (true, "e7d37cb86d3e7fdc1b169ffd02a65ed5175252ae1478831449357fd843240977"), looks := true }, kinds := [], alts := [], laidByText := true, laidKinds := [.data, .pinned], laidTests := true, laidLooks := .later }
def FnClosingQuoteIgnoresWhatFollowsCardSaid : Prop := Claim7.holds Tryd.pinned (.plain (OpenSpec.ofChange fnClosingQuoteIgnoresWhatFollowsSpec)) fnClosingQuoteIgnoresWhatFollowsCard
end Rows
end Go.Proofs.Qxb6606097aDoor
