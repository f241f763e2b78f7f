/-
  DERIVED. GIVEN WITH THE SEED: THE CARDS: each row of Qxb6614137aDoorRows.lean that lists a variable, with what it lists TIED to the program's text (the seventh form; the later family's looks); each row that meets fmt, with fmt's text TOLD by the authors' own Lean function (tested against real Go, not proved from fmt's source: count such statements apart). THE CARD IS WHAT COUNTS. Prove the row's statement (the work); the ties are given (Qxb6614137aDoorTie.lean); close each card by the builder's one call (the guide's Derived/Test/ToyasCard.lean, 'card_holds'). Laid BY PROGRAM, IN A SANDBOX (cutbox-door.mjs). By AI agents, Wed Nov 11 2026. No macro, syntax, notation, axiom, sorry.
-/
import Derived.Test.Qxb6614137aDoorRows
import GoSem.ClaimSeven
namespace Go.Proofs.Qxb6614137aDoor
namespace Rows

/-- THE TIED CARD OF 'zzlaws_csvfile_b1.FnWriteRowReadsBackRFC4180'. -/
def fnWriteRowReadsBackRFC4180Card : Claim7 := { stood := { row := fnWriteRowReadsBackRFC4180Row, standIns := [], harness := (true, "717090b952dc6a3f516dac8605c3a73d6afecd83b5bb51f1c8ee3d090754e1d5"), looks := true }, kinds := [], alts := [], laidByText := true, laidKinds := [.data, .sentinel, .pinned], laidTests := true, laidLooks := .later }
def FnWriteRowReadsBackRFC4180CardSaid : Prop := Claim7.holds Tryd.pinned (.plain (OpenSpec.ofChange fnWriteRowReadsBackRFC4180Spec)) fnWriteRowReadsBackRFC4180Card
end Rows
end Go.Proofs.Qxb6614137aDoor
