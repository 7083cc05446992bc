/-
  NARROWER THAN 'FOR EVERY INPUT', by the rows' own cells (each row's printed sentence says how): FnEqualNodesIgnoresPlaceAndSpelling: loops, laid · FnTakeOptionsMatchesFilterModel: loops, laid · FnTakeOptionsRestIsSettled: loops, laid.
  DERIVED. THE GIVEN ROWS OF THIS SEAT. 3 by the template 'for every input the law returns true; each argument reads behind the call as it read before'; 0 by the template 'total and deterministic' (their statements: Qxb6604659aDoorTotals.lean).
  GIVEN WITH THE SEED: the statements are not yours to turn. If you find one false, say at which input.
  Laid BY PROGRAM, IN A SANDBOX (cutbox-rows.mjs): the forced cells as the released guide's own fill.sh prints them over the translation 9593bb0654ab0434… (all of the seat's roots in one cut). By AI agents, Wed Nov 11 2026. No macro, syntax, notation, axiom, sorry.
-/
import Derived.Test.Qxb6604659aDoorChecked
import GoSem.PinnedTables
import GoSem.Claim
import GoSem.ClaimJoined
import GoSem.ClaimMapViews
import Derived.JoinedTies
import Derived.KernelRfl
namespace Go.Proofs.Qxb6604659aDoor
/- THE CELL 'sum', in the pinned program and in every row, IS THE sha256 OF THE DUMP (.gsa) THAT Qxb6604659aDoorProg.lean LOADS. Nothing in Lean hashes anything: it is a label: what it is worth is what the hold of that sum in a sandbox is worth. -/
noncomputable def Tryd.pinned : Pinned := { name := "qxb6604659adoor", sum := "9593bb0654ab0434ec24818b37250cb00110af5d32468c4de18cde0468b62bdd", checked := Tryd.checked }
namespace Rows
def none {H : Type} : Left H := { results := [], args := [] }

/- WHAT THE LISTED PACKAGE-LEVEL VARIABLES READ AS WHEN THE CALL BEGINS. Each datum BY PROGRAM (the guide's laid-datum.mjs) off the statement by which the dump's own 'gosem.cut.vars' lays the variable. In a bare row this is a premise. The card (Qxb6604659aDoorCards.lean) ties it to the program's text. -/
def laid_unicode_utf8_acceptRanges {H : Type} : DataW H := .agg [.agg [.lit (.int .u8 128), .lit (.int .u8 191)], .agg [.lit (.int .u8 160), .lit (.int .u8 191)], .agg [.lit (.int .u8 128), .lit (.int .u8 159)], .agg [.lit (.int .u8 144), .lit (.int .u8 191)], .agg [.lit (.int .u8 128), .lit (.int .u8 143)], .agg [.lit (.int .u8 0), .lit (.int .u8 0)], .agg [.lit (.int .u8 0), .lit (.int .u8 0)], .agg [.lit (.int .u8 0), .lit (.int .u8 0)], .agg [.lit (.int .u8 0), .lit (.int .u8 0)], .agg [.lit (.int .u8 0), .lit (.int .u8 0)], .agg [.lit (.int .u8 0), .lit (.int .u8 0)], .agg [.lit (.int .u8 0), .lit (.int .u8 0)], .agg [.lit (.int .u8 0), .lit (.int .u8 0)], .agg [.lit (.int .u8 0), .lit (.int .u8 0)], .agg [.lit (.int .u8 0), .lit (.int .u8 0)], .agg [.lit (.int .u8 0), .lit (.int .u8 0)]]
/-- One of Go's own tables, pinned by name: the form's constant. -/
def laid_unicode_utf8_first : DataW Unit := Go.Pinned.utf8First

/-- 'zzlaws_internal_config_b1.FnEqualNodesIgnoresPlaceAndSpelling': WHATEVER THE INPUT: true; the input reads as it did. -/
def fnEqualNodesIgnoresPlaceAndSpellingSpec : ChangeSpec := { name := "fnEqualNodesIgnoresPlaceAndSpelling", fn := fun _ => fun
  | [d] => { results := [.lit (.bool true)], args := [d] }
  | _ => none }
def fnEqualNodesIgnoresPlaceAndSpellingRow : OpenClaim := { program := "qxb6604659adoor", sum := "9593bb0654ab0434ec24818b37250cb00110af5d32468c4de18cde0468b62bdd", func := "example.com/logsluice/logsluice/zzlaws_internal_config_b1.FnEqualNodesIgnoresPlaceAndSpelling", spec := "fnEqualNodesIgnoresPlaceAndSpelling", inPlace := ["internal/bytealg.CountString", "internal/bytealg.IndexByteString", "internal/bytealg.IndexString", "internal/abi.NoEscape", "internal/bytealg.MakeNoZero"], recurses := true, named := ["internal/bytealg.MaxLen", "unicode/utf8.first", "unicode/utf8.acceptRanges"], loops := true, apart := false, laid := [("unicode/utf8.acceptRanges", laid_unicode_utf8_acceptRanges), ("unicode/utf8.first", laid_unicode_utf8_first)] }
def FnEqualNodesIgnoresPlaceAndSpellingSaid : Prop := fnEqualNodesIgnoresPlaceAndSpellingRow.holds Tryd.pinned (OpenSpec.ofChange fnEqualNodesIgnoresPlaceAndSpellingSpec)

/-- ITS FALSE NEIGHBOUR: 'it returns false'. Refute it at one input. -/
def fnEqualNodesIgnoresPlaceAndSpellingWrong : ChangeSpec := { name := "fnEqualNodesIgnoresPlaceAndSpelling", fn := fun _ => fun
  | [d] => { results := [.lit (.bool false)], args := [d] }
  | _ => none }
def FnEqualNodesIgnoresPlaceAndSpellingWrongFalsely : Prop := fnEqualNodesIgnoresPlaceAndSpellingRow.holds Tryd.pinned (OpenSpec.ofChange fnEqualNodesIgnoresPlaceAndSpellingWrong)

/-- 'zzlaws_internal_config_b1.FnTakeOptionsMatchesFilterModel': WHATEVER THE INPUT: true; the input reads as it did. -/
def fnTakeOptionsMatchesFilterModelSpec : ChangeSpec := { name := "fnTakeOptionsMatchesFilterModel", fn := fun _ => fun
  | [d1, d2, d3, d4] => { results := [.lit (.bool true)], args := [d1, d2, d3, d4] }
  | _ => none }
def fnTakeOptionsMatchesFilterModelRow : OpenClaim := { program := "qxb6604659adoor", sum := "9593bb0654ab0434ec24818b37250cb00110af5d32468c4de18cde0468b62bdd", func := "example.com/logsluice/logsluice/zzlaws_internal_config_b1.FnTakeOptionsMatchesFilterModel", spec := "fnTakeOptionsMatchesFilterModel", inPlace := ["internal/bytealg.CountString", "internal/bytealg.IndexByteString", "internal/bytealg.IndexString", "internal/abi.NoEscape", "internal/bytealg.MakeNoZero"], unfollowed := true, recurses := true, named := ["internal/bytealg.MaxLen", "unicode/utf8.first", "unicode/utf8.acceptRanges"], loops := true, apart := false, laid := [("unicode/utf8.acceptRanges", laid_unicode_utf8_acceptRanges), ("unicode/utf8.first", laid_unicode_utf8_first)] }
def FnTakeOptionsMatchesFilterModelSaid : Prop := fnTakeOptionsMatchesFilterModelRow.holds Tryd.pinned (OpenSpec.ofChange fnTakeOptionsMatchesFilterModelSpec)

/-- ITS FALSE NEIGHBOUR: 'it returns false'. Refute it at one input. -/
def fnTakeOptionsMatchesFilterModelWrong : ChangeSpec := { name := "fnTakeOptionsMatchesFilterModel", fn := fun _ => fun
  | [d1, d2, d3, d4] => { results := [.lit (.bool false)], args := [d1, d2, d3, d4] }
  | _ => none }
def FnTakeOptionsMatchesFilterModelWrongFalsely : Prop := fnTakeOptionsMatchesFilterModelRow.holds Tryd.pinned (OpenSpec.ofChange fnTakeOptionsMatchesFilterModelWrong)

/-- 'zzlaws_internal_config_b1.FnTakeOptionsRestIsSettled': WHATEVER THE INPUT: true; the input reads as it did. -/
def fnTakeOptionsRestIsSettledSpec : ChangeSpec := { name := "fnTakeOptionsRestIsSettled", fn := fun _ => fun
  | [d1, d2] => { results := [.lit (.bool true)], args := [d1, d2] }
  | _ => none }
def fnTakeOptionsRestIsSettledRow : OpenClaim := { program := "qxb6604659adoor", sum := "9593bb0654ab0434ec24818b37250cb00110af5d32468c4de18cde0468b62bdd", func := "example.com/logsluice/logsluice/zzlaws_internal_config_b1.FnTakeOptionsRestIsSettled", spec := "fnTakeOptionsRestIsSettled", inPlace := ["internal/bytealg.CountString", "internal/bytealg.IndexByteString", "internal/bytealg.IndexString", "internal/abi.NoEscape", "internal/bytealg.MakeNoZero"], unfollowed := true, recurses := true, named := ["internal/bytealg.MaxLen", "unicode/utf8.first", "unicode/utf8.acceptRanges"], loops := true, apart := false, laid := [("unicode/utf8.acceptRanges", laid_unicode_utf8_acceptRanges), ("unicode/utf8.first", laid_unicode_utf8_first)] }
def FnTakeOptionsRestIsSettledSaid : Prop := fnTakeOptionsRestIsSettledRow.holds Tryd.pinned (OpenSpec.ofChange fnTakeOptionsRestIsSettledSpec)

/-- ITS FALSE NEIGHBOUR: 'it returns false'. Refute it at one input. -/
def fnTakeOptionsRestIsSettledWrong : ChangeSpec := { name := "fnTakeOptionsRestIsSettled", fn := fun _ => fun
  | [d1, d2] => { results := [.lit (.bool false)], args := [d1, d2] }
  | _ => none }
def FnTakeOptionsRestIsSettledWrongFalsely : Prop := fnTakeOptionsRestIsSettledRow.holds Tryd.pinned (OpenSpec.ofChange fnTakeOptionsRestIsSettledWrong)

end Rows
end Go.Proofs.Qxb6604659aDoor
