/-
  DERIVED. GIVEN WITH THE SEED: THE CARDS: each row of Qxb6003968aDoorRows.lean that lists a variable, with what it lists TIED to the program's text (the seventh form; the later family's looks); each row that meets fmt, with fmt's text TOLD by the authors' own Lean function (tested against real Go, not proved from fmt's source: count such statements apart). THE CARD IS WHAT COUNTS. Prove the row's statement (the work); the ties are given (Qxb6003968aDoorTie.lean); close each card by the builder's one call (the guide's Derived/Test/ToyasCard.lean, 'card_holds'). Laid BY PROGRAM, IN A SANDBOX (cutbox-door.mjs). By AI agents, Wed Nov 11 2026. No macro, syntax, notation, axiom, sorry.
-/
import Derived.Test.Qxb6003968aDoorRows
import GoSem.ClaimSeven
namespace Go.Proofs.Qxb6003968aDoor
namespace Rows

/-- THE TIED CARD OF 'zzlaws_root_g2.FnCombinedValueSplitsAtAnyCut'. -/
def fnCombinedValueSplitsAtAnyCutCard : Claim7 := { stood := { row := fnCombinedValueSplitsAtAnyCutRow, standIns := [], harness := (true, "186dfb1a37a19d8ed58ff5bfe4850ccc695d736ba81e09ee58d14640849814e1"), looks := false }, kinds := [], alts := [], laidByText := true, laidKinds := [.data, .pinned], laidTests := true, laidLooks := .later }
def FnCombinedValueSplitsAtAnyCutCardSaid : Prop := Claim7.holds Tryd.pinned (.plain (OpenSpec.ofChange fnCombinedValueSplitsAtAnyCutSpec)) fnCombinedValueSplitsAtAnyCutCard

/-- THE TIED CARD OF 'zzlaws_root_g2.FnCombinedValueOfOneLineIsItsTrim'. -/
def fnCombinedValueOfOneLineIsItsTrimCard : Claim7 := { stood := { row := fnCombinedValueOfOneLineIsItsTrimRow, standIns := [], harness := (true, "186dfb1a37a19d8ed58ff5bfe4850ccc695d736ba81e09ee58d14640849814e1"), looks := false }, kinds := [], alts := [], laidByText := true, laidKinds := [.data, .pinned], laidTests := true, laidLooks := .later }
def FnCombinedValueOfOneLineIsItsTrimCardSaid : Prop := Claim7.holds Tryd.pinned (.plain (OpenSpec.ofChange fnCombinedValueOfOneLineIsItsTrimSpec)) fnCombinedValueOfOneLineIsItsTrimCard

/-- THE TIED CARD OF 'zzlaws_root_g2.FnCombinedValueIgnoresPadding'. -/
def fnCombinedValueIgnoresPaddingCard : Claim7 := { stood := { row := fnCombinedValueIgnoresPaddingRow, standIns := [], harness := (true, "186dfb1a37a19d8ed58ff5bfe4850ccc695d736ba81e09ee58d14640849814e1"), looks := false }, kinds := [], alts := [], laidByText := true, laidKinds := [.data, .pinned], laidTests := true, laidLooks := .later }
def FnCombinedValueIgnoresPaddingCardSaid : Prop := Claim7.holds Tryd.pinned (.plain (OpenSpec.ofChange fnCombinedValueIgnoresPaddingSpec)) fnCombinedValueIgnoresPaddingCard
end Rows
end Go.Proofs.Qxb6003968aDoor
