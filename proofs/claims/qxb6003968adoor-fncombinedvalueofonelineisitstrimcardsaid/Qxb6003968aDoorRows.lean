/-
  NARROWER THAN 'FOR EVERY INPUT', by the rows' own cells (each row's printed sentence says how): FnCombinedValueSplitsAtAnyCut: laid · FnCombinedValueOfOneLineIsItsTrim: laid · FnCombinedValueIgnoresPadding: laid.
  DERIVED. THE GIVEN ROWS OF THIS SEAT. 3 by the template 'for every input the law returns true; each argument reads behind the call as it read before'; 0 by the template 'total and deterministic' (their statements: Qxb6003968aDoorTotals.lean).
  GIVEN WITH THE SEED: the statements are not yours to turn. If you find one false, say at which input.
  Laid BY PROGRAM, IN A SANDBOX (cutbox-rows.mjs): the forced cells as the released guide's own fill.sh prints them over the translation 5287b0d551c74e15… (all of the seat's roots in one cut). By AI agents, Wed Nov 11 2026. No macro, syntax, notation, axiom, sorry.
-/
import Derived.Test.Qxb6003968aDoorChecked
import GoSem.PinnedTables
import GoSem.Claim
import GoSem.ClaimJoined
import GoSem.ClaimMapViews
import Derived.JoinedTies
import Derived.KernelRfl
namespace Go.Proofs.Qxb6003968aDoor
/- THE CELL 'sum', in the pinned program and in every row, IS THE sha256 OF THE DUMP (.gsa) THAT Qxb6003968aDoorProg.lean LOADS. Nothing in Lean hashes anything: it is a label: what it is worth is what the hold of that sum in a sandbox is worth. -/
noncomputable def Tryd.pinned : Pinned := { name := "qxb6003968adoor", sum := "5287b0d551c74e1541d018e5a616b82a15ed4d0cfe05df8e7a494be09c10f737", checked := Tryd.checked }
namespace Rows
def none {H : Type} : Left H := { results := [], args := [] }

/- WHAT THE LISTED PACKAGE-LEVEL VARIABLES READ AS WHEN THE CALL BEGINS. Each datum BY PROGRAM (the guide's laid-datum.mjs) off the statement by which the dump's own 'gosem.cut.vars' lays the variable. In a bare row this is a premise. The card (Qxb6003968aDoorCards.lean) ties it to the program's text. -/
def laid_unicode_utf8_acceptRanges {H : Type} : DataW H := .agg [.agg [.lit (.int .u8 128), .lit (.int .u8 191)], .agg [.lit (.int .u8 160), .lit (.int .u8 191)], .agg [.lit (.int .u8 128), .lit (.int .u8 159)], .agg [.lit (.int .u8 144), .lit (.int .u8 191)], .agg [.lit (.int .u8 128), .lit (.int .u8 143)], .agg [.lit (.int .u8 0), .lit (.int .u8 0)], .agg [.lit (.int .u8 0), .lit (.int .u8 0)], .agg [.lit (.int .u8 0), .lit (.int .u8 0)], .agg [.lit (.int .u8 0), .lit (.int .u8 0)], .agg [.lit (.int .u8 0), .lit (.int .u8 0)], .agg [.lit (.int .u8 0), .lit (.int .u8 0)], .agg [.lit (.int .u8 0), .lit (.int .u8 0)], .agg [.lit (.int .u8 0), .lit (.int .u8 0)], .agg [.lit (.int .u8 0), .lit (.int .u8 0)], .agg [.lit (.int .u8 0), .lit (.int .u8 0)], .agg [.lit (.int .u8 0), .lit (.int .u8 0)]]
/-- One of Go's own tables, pinned by name: the form's constant. -/
def laid_unicode_utf8_first : DataW Unit := Go.Pinned.utf8First

/-- 'zzlaws_root_g2.FnCombinedValueSplitsAtAnyCut': WHATEVER THE INPUT: true; the input reads as it did. -/
def fnCombinedValueSplitsAtAnyCutSpec : ChangeSpec := { name := "fnCombinedValueSplitsAtAnyCut", fn := fun _ => fun
  | [d1, d2] => { results := [.lit (.bool true)], args := [d1, d2] }
  | _ => none }
def fnCombinedValueSplitsAtAnyCutRow : OpenClaim := { program := "qxb6003968adoor", sum := "5287b0d551c74e1541d018e5a616b82a15ed4d0cfe05df8e7a494be09c10f737", func := "example.com/countersign/countersign/zzlaws_root_g2.FnCombinedValueSplitsAtAnyCut", spec := "fnCombinedValueSplitsAtAnyCut", inPlace := ["internal/bytealg.IndexByteString", "internal/bytealg.IndexString", "internal/abi.NoEscape", "internal/bytealg.MakeNoZero"], named := ["unicode/utf8.first", "unicode/utf8.acceptRanges", "internal/bytealg.MaxLen"], apart := false, laid := [("unicode/utf8.acceptRanges", laid_unicode_utf8_acceptRanges), ("unicode/utf8.first", laid_unicode_utf8_first)] }
def FnCombinedValueSplitsAtAnyCutSaid : Prop := fnCombinedValueSplitsAtAnyCutRow.holds Tryd.pinned (OpenSpec.ofChange fnCombinedValueSplitsAtAnyCutSpec)

/-- ITS FALSE NEIGHBOUR: 'it returns false'. Refute it at one input. -/
def fnCombinedValueSplitsAtAnyCutWrong : ChangeSpec := { name := "fnCombinedValueSplitsAtAnyCut", fn := fun _ => fun
  | [d1, d2] => { results := [.lit (.bool false)], args := [d1, d2] }
  | _ => none }
def FnCombinedValueSplitsAtAnyCutWrongFalsely : Prop := fnCombinedValueSplitsAtAnyCutRow.holds Tryd.pinned (OpenSpec.ofChange fnCombinedValueSplitsAtAnyCutWrong)

/-- 'zzlaws_root_g2.FnCombinedValueOfOneLineIsItsTrim': WHATEVER THE INPUT: true; the input reads as it did. -/
def fnCombinedValueOfOneLineIsItsTrimSpec : ChangeSpec := { name := "fnCombinedValueOfOneLineIsItsTrim", fn := fun _ => fun
  | [d] => { results := [.lit (.bool true)], args := [d] }
  | _ => none }
def fnCombinedValueOfOneLineIsItsTrimRow : OpenClaim := { program := "qxb6003968adoor", sum := "5287b0d551c74e1541d018e5a616b82a15ed4d0cfe05df8e7a494be09c10f737", func := "example.com/countersign/countersign/zzlaws_root_g2.FnCombinedValueOfOneLineIsItsTrim", spec := "fnCombinedValueOfOneLineIsItsTrim", inPlace := ["internal/bytealg.IndexByteString", "internal/bytealg.IndexString", "internal/abi.NoEscape", "internal/bytealg.MakeNoZero"], named := ["unicode/utf8.first", "unicode/utf8.acceptRanges", "internal/bytealg.MaxLen"], apart := false, laid := [("unicode/utf8.acceptRanges", laid_unicode_utf8_acceptRanges), ("unicode/utf8.first", laid_unicode_utf8_first)] }
def FnCombinedValueOfOneLineIsItsTrimSaid : Prop := fnCombinedValueOfOneLineIsItsTrimRow.holds Tryd.pinned (OpenSpec.ofChange fnCombinedValueOfOneLineIsItsTrimSpec)

/-- ITS FALSE NEIGHBOUR: 'it returns false'. Refute it at one input. -/
def fnCombinedValueOfOneLineIsItsTrimWrong : ChangeSpec := { name := "fnCombinedValueOfOneLineIsItsTrim", fn := fun _ => fun
  | [d] => { results := [.lit (.bool false)], args := [d] }
  | _ => none }
def FnCombinedValueOfOneLineIsItsTrimWrongFalsely : Prop := fnCombinedValueOfOneLineIsItsTrimRow.holds Tryd.pinned (OpenSpec.ofChange fnCombinedValueOfOneLineIsItsTrimWrong)

/-- 'zzlaws_root_g2.FnCombinedValueIgnoresPadding': WHATEVER THE INPUT: true; the input reads as it did. -/
def fnCombinedValueIgnoresPaddingSpec : ChangeSpec := { name := "fnCombinedValueIgnoresPadding", fn := fun _ => fun
  | [d1, d2] => { results := [.lit (.bool true)], args := [d1, d2] }
  | _ => none }
def fnCombinedValueIgnoresPaddingRow : OpenClaim := { program := "qxb6003968adoor", sum := "5287b0d551c74e1541d018e5a616b82a15ed4d0cfe05df8e7a494be09c10f737", func := "example.com/countersign/countersign/zzlaws_root_g2.FnCombinedValueIgnoresPadding", spec := "fnCombinedValueIgnoresPadding", inPlace := ["internal/bytealg.IndexByteString", "internal/bytealg.IndexString", "internal/abi.NoEscape", "internal/bytealg.MakeNoZero"], named := ["unicode/utf8.first", "unicode/utf8.acceptRanges", "internal/bytealg.MaxLen"], apart := false, laid := [("unicode/utf8.acceptRanges", laid_unicode_utf8_acceptRanges), ("unicode/utf8.first", laid_unicode_utf8_first)] }
def FnCombinedValueIgnoresPaddingSaid : Prop := fnCombinedValueIgnoresPaddingRow.holds Tryd.pinned (OpenSpec.ofChange fnCombinedValueIgnoresPaddingSpec)

/-- ITS FALSE NEIGHBOUR: 'it returns false'. Refute it at one input. -/
def fnCombinedValueIgnoresPaddingWrong : ChangeSpec := { name := "fnCombinedValueIgnoresPadding", fn := fun _ => fun
  | [d1, d2] => { results := [.lit (.bool false)], args := [d1, d2] }
  | _ => none }
def FnCombinedValueIgnoresPaddingWrongFalsely : Prop := fnCombinedValueIgnoresPaddingRow.holds Tryd.pinned (OpenSpec.ofChange fnCombinedValueIgnoresPaddingWrong)

end Rows
end Go.Proofs.Qxb6003968aDoor
