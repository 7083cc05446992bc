/-
  NARROWER THAN 'FOR EVERY INPUT', by the rows' own cells (each row's printed sentence says how): FnIsDotAtomMatchesAutomaton: laid · FnIsDomainMatchesAutomaton: laid · FnDomainIsDotAtom: laid.
  DERIVED. THE GIVEN ROWS OF THIS SEAT. 3 by the template 'for every input the law returns true; each argument reads behind the call as it read before'; 0 by the template 'total and deterministic' (their statements: Qxb6604306aDoorTotals.lean).
  GIVEN WITH THE SEED: the statements are not yours to turn. If you find one false, say at which input.
  Laid BY PROGRAM, IN A SANDBOX (cutbox-rows.mjs): the forced cells as the released guide's own fill.sh prints them over the translation a121bcdc2bece155… (all of the seat's roots in one cut). By AI agents, Wed Nov 11 2026. No macro, syntax, notation, axiom, sorry.
-/
import Derived.Test.Qxb6604306aDoorChecked
import GoSem.PinnedTables
import GoSem.Claim
import GoSem.ClaimJoined
import GoSem.ClaimMapViews
import Derived.JoinedTies
import Derived.KernelRfl
namespace Go.Proofs.Qxb6604306aDoor
/- THE CELL 'sum', in the pinned program and in every row, IS THE sha256 OF THE DUMP (.gsa) THAT Qxb6604306aDoorProg.lean LOADS. Nothing in Lean hashes anything: it is a label: what it is worth is what the hold of that sum in a sandbox is worth. -/
noncomputable def Tryd.pinned : Pinned := { name := "qxb6604306adoor", sum := "a121bcdc2bece1551f158dcb8883f6ef0bdc3224f0b76a90db1711f66a5c5fa8", checked := Tryd.checked }
namespace Rows
def none {H : Type} : Left H := { results := [], args := [] }

/- WHAT THE LISTED PACKAGE-LEVEL VARIABLES READ AS WHEN THE CALL BEGINS. Each datum BY PROGRAM (the guide's laid-datum.mjs) off the statement by which the dump's own 'gosem.cut.vars' lays the variable. In a bare row this is a premise. The card (Qxb6604306aDoorCards.lean) ties it to the program's text. -/
def laid_unicode_utf8_acceptRanges {H : Type} : DataW H := .agg [.agg [.lit (.int .u8 128), .lit (.int .u8 191)], .agg [.lit (.int .u8 160), .lit (.int .u8 191)], .agg [.lit (.int .u8 128), .lit (.int .u8 159)], .agg [.lit (.int .u8 144), .lit (.int .u8 191)], .agg [.lit (.int .u8 128), .lit (.int .u8 143)], .agg [.lit (.int .u8 0), .lit (.int .u8 0)], .agg [.lit (.int .u8 0), .lit (.int .u8 0)], .agg [.lit (.int .u8 0), .lit (.int .u8 0)], .agg [.lit (.int .u8 0), .lit (.int .u8 0)], .agg [.lit (.int .u8 0), .lit (.int .u8 0)], .agg [.lit (.int .u8 0), .lit (.int .u8 0)], .agg [.lit (.int .u8 0), .lit (.int .u8 0)], .agg [.lit (.int .u8 0), .lit (.int .u8 0)], .agg [.lit (.int .u8 0), .lit (.int .u8 0)], .agg [.lit (.int .u8 0), .lit (.int .u8 0)], .agg [.lit (.int .u8 0), .lit (.int .u8 0)]]
/-- One of Go's own tables, pinned by name: the form's constant. -/
def laid_unicode_utf8_first : DataW Unit := Go.Pinned.utf8First

/-- 'zzlaws_internal_mail_b1.FnIsDotAtomMatchesAutomaton': WHATEVER THE INPUT: true; the input reads as it did. -/
def fnIsDotAtomMatchesAutomatonSpec : ChangeSpec := { name := "fnIsDotAtomMatchesAutomaton", fn := fun _ => fun
  | [d] => { results := [.lit (.bool true)], args := [d] }
  | _ => none }
def fnIsDotAtomMatchesAutomatonRow : OpenClaim := { program := "qxb6604306adoor", sum := "a121bcdc2bece1551f158dcb8883f6ef0bdc3224f0b76a90db1711f66a5c5fa8", func := "example.com/cardea/cardea/zzlaws_internal_mail_b1.FnIsDotAtomMatchesAutomaton", spec := "fnIsDotAtomMatchesAutomaton", inPlace := ["internal/bytealg.CountString", "internal/bytealg.IndexByteString", "internal/bytealg.IndexString"], unfollowed := true, recurses := true, named := ["unicode/utf8.first", "unicode/utf8.acceptRanges", "internal/bytealg.MaxLen"], apart := false, laid := [("unicode/utf8.acceptRanges", laid_unicode_utf8_acceptRanges), ("unicode/utf8.first", laid_unicode_utf8_first)] }
def FnIsDotAtomMatchesAutomatonSaid : Prop := fnIsDotAtomMatchesAutomatonRow.holds Tryd.pinned (OpenSpec.ofChange fnIsDotAtomMatchesAutomatonSpec)

/-- ITS FALSE NEIGHBOUR: 'it returns false'. Refute it at one input. -/
def fnIsDotAtomMatchesAutomatonWrong : ChangeSpec := { name := "fnIsDotAtomMatchesAutomaton", fn := fun _ => fun
  | [d] => { results := [.lit (.bool false)], args := [d] }
  | _ => none }
def FnIsDotAtomMatchesAutomatonWrongFalsely : Prop := fnIsDotAtomMatchesAutomatonRow.holds Tryd.pinned (OpenSpec.ofChange fnIsDotAtomMatchesAutomatonWrong)

/-- 'zzlaws_internal_mail_b1.FnIsDomainMatchesAutomaton': WHATEVER THE INPUT: true; the input reads as it did. -/
def fnIsDomainMatchesAutomatonSpec : ChangeSpec := { name := "fnIsDomainMatchesAutomaton", fn := fun _ => fun
  | [d] => { results := [.lit (.bool true)], args := [d] }
  | _ => none }
def fnIsDomainMatchesAutomatonRow : OpenClaim := { program := "qxb6604306adoor", sum := "a121bcdc2bece1551f158dcb8883f6ef0bdc3224f0b76a90db1711f66a5c5fa8", func := "example.com/cardea/cardea/zzlaws_internal_mail_b1.FnIsDomainMatchesAutomaton", spec := "fnIsDomainMatchesAutomaton", inPlace := ["internal/bytealg.CountString", "internal/bytealg.IndexByteString", "internal/bytealg.IndexString"], unfollowed := true, recurses := true, named := ["unicode/utf8.first", "unicode/utf8.acceptRanges", "internal/bytealg.MaxLen"], apart := false, laid := [("unicode/utf8.acceptRanges", laid_unicode_utf8_acceptRanges), ("unicode/utf8.first", laid_unicode_utf8_first)] }
def FnIsDomainMatchesAutomatonSaid : Prop := fnIsDomainMatchesAutomatonRow.holds Tryd.pinned (OpenSpec.ofChange fnIsDomainMatchesAutomatonSpec)

/-- ITS FALSE NEIGHBOUR: 'it returns false'. Refute it at one input. -/
def fnIsDomainMatchesAutomatonWrong : ChangeSpec := { name := "fnIsDomainMatchesAutomaton", fn := fun _ => fun
  | [d] => { results := [.lit (.bool false)], args := [d] }
  | _ => none }
def FnIsDomainMatchesAutomatonWrongFalsely : Prop := fnIsDomainMatchesAutomatonRow.holds Tryd.pinned (OpenSpec.ofChange fnIsDomainMatchesAutomatonWrong)

/-- 'zzlaws_internal_mail_b1.FnDomainIsDotAtom': WHATEVER THE INPUT: true; the input reads as it did. -/
def fnDomainIsDotAtomSpec : ChangeSpec := { name := "fnDomainIsDotAtom", fn := fun _ => fun
  | [d] => { results := [.lit (.bool true)], args := [d] }
  | _ => none }
def fnDomainIsDotAtomRow : OpenClaim := { program := "qxb6604306adoor", sum := "a121bcdc2bece1551f158dcb8883f6ef0bdc3224f0b76a90db1711f66a5c5fa8", func := "example.com/cardea/cardea/zzlaws_internal_mail_b1.FnDomainIsDotAtom", spec := "fnDomainIsDotAtom", inPlace := ["internal/bytealg.CountString", "internal/bytealg.IndexByteString", "internal/bytealg.IndexString"], unfollowed := true, recurses := true, named := ["unicode/utf8.first", "unicode/utf8.acceptRanges", "internal/bytealg.MaxLen"], apart := false, laid := [("unicode/utf8.acceptRanges", laid_unicode_utf8_acceptRanges), ("unicode/utf8.first", laid_unicode_utf8_first)] }
def FnDomainIsDotAtomSaid : Prop := fnDomainIsDotAtomRow.holds Tryd.pinned (OpenSpec.ofChange fnDomainIsDotAtomSpec)

/-- ITS FALSE NEIGHBOUR: 'it returns false'. Refute it at one input. -/
def fnDomainIsDotAtomWrong : ChangeSpec := { name := "fnDomainIsDotAtom", fn := fun _ => fun
  | [d] => { results := [.lit (.bool false)], args := [d] }
  | _ => none }
def FnDomainIsDotAtomWrongFalsely : Prop := fnDomainIsDotAtomRow.holds Tryd.pinned (OpenSpec.ofChange fnDomainIsDotAtomWrong)

end Rows
end Go.Proofs.Qxb6604306aDoor
