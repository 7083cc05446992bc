/-
  DERIVED. GIVEN WITH THE SEED: THE CARDS: each row of Qxb6604306aDoorRows.lean that lists a variable, with what it lists TIED to the program's text (the seventh form; the later family's looks); each row that meets fmt, with fmt's text TOLD by the authors' own Lean function (tested against real Go, not proved from fmt's source: count such statements apart). THE CARD IS WHAT COUNTS. Prove the row's statement (the work); the ties are given (Qxb6604306aDoorTie.lean); close each card by the builder's one call (the guide's Derived/Test/ToyasCard.lean, 'card_holds'). Laid BY PROGRAM, IN A SANDBOX (cutbox-door.mjs). By AI agents, Wed Nov 11 2026. No macro, syntax, notation, axiom, sorry.
-/
import Derived.Test.Qxb6604306aDoorRows
import GoSem.ClaimSeven
namespace Go.Proofs.Qxb6604306aDoor
namespace Rows

/-- THE TIED CARD OF 'zzlaws_internal_mail_b1.FnIsDotAtomMatchesAutomaton'. -/
def fnIsDotAtomMatchesAutomatonCard : Claim7 := { stood := { row := fnIsDotAtomMatchesAutomatonRow, standIns := [], harness := (true, "8772da5321bfebb63239724a39a5c8317ce19a22e786d111c0ccaf98ef41c1a0"), looks := false }, kinds := [], alts := [], laidByText := true, laidKinds := [.data, .pinned], laidTests := true, laidLooks := .later }
def FnIsDotAtomMatchesAutomatonCardSaid : Prop := Claim7.holds Tryd.pinned (.plain (OpenSpec.ofChange fnIsDotAtomMatchesAutomatonSpec)) fnIsDotAtomMatchesAutomatonCard

/-- THE TIED CARD OF 'zzlaws_internal_mail_b1.FnIsDomainMatchesAutomaton'. -/
def fnIsDomainMatchesAutomatonCard : Claim7 := { stood := { row := fnIsDomainMatchesAutomatonRow, standIns := [], harness := (true, "8772da5321bfebb63239724a39a5c8317ce19a22e786d111c0ccaf98ef41c1a0"), looks := false }, kinds := [], alts := [], laidByText := true, laidKinds := [.data, .pinned], laidTests := true, laidLooks := .later }
def FnIsDomainMatchesAutomatonCardSaid : Prop := Claim7.holds Tryd.pinned (.plain (OpenSpec.ofChange fnIsDomainMatchesAutomatonSpec)) fnIsDomainMatchesAutomatonCard

/-- THE TIED CARD OF 'zzlaws_internal_mail_b1.FnDomainIsDotAtom'. -/
def fnDomainIsDotAtomCard : Claim7 := { stood := { row := fnDomainIsDotAtomRow, standIns := [], harness := (true, "8772da5321bfebb63239724a39a5c8317ce19a22e786d111c0ccaf98ef41c1a0"), looks := false }, kinds := [], alts := [], laidByText := true, laidKinds := [.data, .pinned], laidTests := true, laidLooks := .later }
def FnDomainIsDotAtomCardSaid : Prop := Claim7.holds Tryd.pinned (.plain (OpenSpec.ofChange fnDomainIsDotAtomSpec)) fnDomainIsDotAtomCard
end Rows
end Go.Proofs.Qxb6604306aDoor
