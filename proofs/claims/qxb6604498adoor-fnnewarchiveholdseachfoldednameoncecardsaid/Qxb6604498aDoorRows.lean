/-
  NARROWER THAN 'FOR EVERY INPUT', by the rows' own cells (each row's printed sentence says how): FnNewArchiveKeyHoldsLastFoldedName: laid · FnNewArchiveHoldsEachFoldedNameOnce: laid.
  DERIVED. THE GIVEN ROWS OF THIS SEAT. 2 by the template 'for every input the law returns true; each argument reads behind the call as it read before'; 0 by the template 'total and deterministic' (their statements: Qxb6604498aDoorTotals.lean).
  GIVEN WITH THE SEED: the statements are not yours to turn. If you find one false, say at which input.
  Laid BY PROGRAM, IN A SANDBOX (cutbox-rows.mjs): the forced cells as the released guide's own fill.sh prints them over the translation f324879bc5cf104a… (all of the seat's roots in one cut). By AI agents, Wed Nov 11 2026. No macro, syntax, notation, axiom, sorry.
-/
import Derived.Test.Qxb6604498aDoorChecked
import GoSem.PinnedTables
import GoSem.Claim
import GoSem.ClaimJoined
import GoSem.ClaimMapViews
import Derived.JoinedTies
import Derived.KernelRfl
namespace Go.Proofs.Qxb6604498aDoor
/- THE CELL 'sum', in the pinned program and in every row, IS THE sha256 OF THE DUMP (.gsa) THAT Qxb6604498aDoorProg.lean LOADS. Nothing in Lean hashes anything: it is a label: what it is worth is what the hold of that sum in a sandbox is worth. -/
noncomputable def Tryd.pinned : Pinned := { name := "qxb6604498adoor", sum := "f324879bc5cf104a476e2c77c8fa0c9f5418660949d8a4d0dbe58a8bfb307320", checked := Tryd.checked }
namespace Rows
def none {H : Type} : Left H := { results := [], args := [] }

/- WHAT THE LISTED PACKAGE-LEVEL VARIABLES READ AS WHEN THE CALL BEGINS. Each datum BY PROGRAM (the guide's laid-datum.mjs) off the statement by which the dump's own 'gosem.cut.vars' lays the variable. In a bare row this is a premise. The card (Qxb6604498aDoorCards.lean) ties it to the program's text. -/
def laid_unicode_utf8_acceptRanges {H : Type} : DataW H := .agg [.agg [.lit (.int .u8 128), .lit (.int .u8 191)], .agg [.lit (.int .u8 160), .lit (.int .u8 191)], .agg [.lit (.int .u8 128), .lit (.int .u8 159)], .agg [.lit (.int .u8 144), .lit (.int .u8 191)], .agg [.lit (.int .u8 128), .lit (.int .u8 143)], .agg [.lit (.int .u8 0), .lit (.int .u8 0)], .agg [.lit (.int .u8 0), .lit (.int .u8 0)], .agg [.lit (.int .u8 0), .lit (.int .u8 0)], .agg [.lit (.int .u8 0), .lit (.int .u8 0)], .agg [.lit (.int .u8 0), .lit (.int .u8 0)], .agg [.lit (.int .u8 0), .lit (.int .u8 0)], .agg [.lit (.int .u8 0), .lit (.int .u8 0)], .agg [.lit (.int .u8 0), .lit (.int .u8 0)], .agg [.lit (.int .u8 0), .lit (.int .u8 0)], .agg [.lit (.int .u8 0), .lit (.int .u8 0)], .agg [.lit (.int .u8 0), .lit (.int .u8 0)]]
/-- One of Go's own tables, pinned by name: the form's constant. -/
def laid_unicode_CaseRanges : DataW Unit := Go.Pinned.caseRanges
/-- One of Go's own tables, pinned by name: the form's constant. -/
def laid_unicode_utf8_first : DataW Unit := Go.Pinned.utf8First

/-- 'zzlaws_internal_table_b1.FnNewArchiveKeyHoldsLastFoldedName': WHATEVER THE INPUT: true; the input reads as it did. -/
def fnNewArchiveKeyHoldsLastFoldedNameSpec : ChangeSpec := { name := "fnNewArchiveKeyHoldsLastFoldedName", fn := fun _ => fun
  | [d1, d2] => { results := [.lit (.bool true)], args := [d1, d2] }
  | _ => none }
def fnNewArchiveKeyHoldsLastFoldedNameRow : OpenClaim := { program := "qxb6604498adoor", sum := "f324879bc5cf104a476e2c77c8fa0c9f5418660949d8a4d0dbe58a8bfb307320", func := "example.com/vestline/vestline/zzlaws_internal_table_b1.FnNewArchiveKeyHoldsLastFoldedName", spec := "fnNewArchiveKeyHoldsLastFoldedName", inPlace := ["internal/abi.NoEscape", "internal/bytealg.MakeNoZero"], unfollowed := true, recurses := true, named := ["unicode/utf8.first", "unicode/utf8.acceptRanges", "unicode.CaseRanges"], apart := false, laid := [("unicode/utf8.acceptRanges", laid_unicode_utf8_acceptRanges), ("unicode.CaseRanges", laid_unicode_CaseRanges), ("unicode/utf8.first", laid_unicode_utf8_first)] }
def FnNewArchiveKeyHoldsLastFoldedNameSaid : Prop := fnNewArchiveKeyHoldsLastFoldedNameRow.holds Tryd.pinned (OpenSpec.ofChange fnNewArchiveKeyHoldsLastFoldedNameSpec)

/-- ITS FALSE NEIGHBOUR: 'it returns false'. Refute it at one input. -/
def fnNewArchiveKeyHoldsLastFoldedNameWrong : ChangeSpec := { name := "fnNewArchiveKeyHoldsLastFoldedName", fn := fun _ => fun
  | [d1, d2] => { results := [.lit (.bool false)], args := [d1, d2] }
  | _ => none }
def FnNewArchiveKeyHoldsLastFoldedNameWrongFalsely : Prop := fnNewArchiveKeyHoldsLastFoldedNameRow.holds Tryd.pinned (OpenSpec.ofChange fnNewArchiveKeyHoldsLastFoldedNameWrong)

/-- 'zzlaws_internal_table_b1.FnNewArchiveHoldsEachFoldedNameOnce': WHATEVER THE INPUT: true; the input reads as it did. -/
def fnNewArchiveHoldsEachFoldedNameOnceSpec : ChangeSpec := { name := "fnNewArchiveHoldsEachFoldedNameOnce", fn := fun _ => fun
  | [d] => { results := [.lit (.bool true)], args := [d] }
  | _ => none }
def fnNewArchiveHoldsEachFoldedNameOnceRow : OpenClaim := { program := "qxb6604498adoor", sum := "f324879bc5cf104a476e2c77c8fa0c9f5418660949d8a4d0dbe58a8bfb307320", func := "example.com/vestline/vestline/zzlaws_internal_table_b1.FnNewArchiveHoldsEachFoldedNameOnce", spec := "fnNewArchiveHoldsEachFoldedNameOnce", inPlace := ["internal/abi.NoEscape", "internal/bytealg.MakeNoZero"], unfollowed := true, recurses := true, named := ["unicode/utf8.first", "unicode/utf8.acceptRanges", "unicode.CaseRanges"], apart := false, laid := [("unicode/utf8.acceptRanges", laid_unicode_utf8_acceptRanges), ("unicode.CaseRanges", laid_unicode_CaseRanges), ("unicode/utf8.first", laid_unicode_utf8_first)] }
def FnNewArchiveHoldsEachFoldedNameOnceSaid : Prop := fnNewArchiveHoldsEachFoldedNameOnceRow.holds Tryd.pinned (OpenSpec.ofChange fnNewArchiveHoldsEachFoldedNameOnceSpec)

/-- ITS FALSE NEIGHBOUR: 'it returns false'. Refute it at one input. -/
def fnNewArchiveHoldsEachFoldedNameOnceWrong : ChangeSpec := { name := "fnNewArchiveHoldsEachFoldedNameOnce", fn := fun _ => fun
  | [d] => { results := [.lit (.bool false)], args := [d] }
  | _ => none }
def FnNewArchiveHoldsEachFoldedNameOnceWrongFalsely : Prop := fnNewArchiveHoldsEachFoldedNameOnceRow.holds Tryd.pinned (OpenSpec.ofChange fnNewArchiveHoldsEachFoldedNameOnceWrong)

end Rows
end Go.Proofs.Qxb6604498aDoor
