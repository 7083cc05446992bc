/-
  DERIVED. GIVEN WITH THE SEED: THE CARDS: each row of Qxb6604498aDoorRows.lean that lists a variable, with what it lists TIED to the program's text (the seventh form; the later family's looks); each row that meets fmt, with fmt's text TOLD by the authors' own Lean function (tested against real Go, not proved from fmt's source: count such statements apart). THE CARD IS WHAT COUNTS. Prove the row's statement (the work); the ties are given (Qxb6604498aDoorTie.lean); close each card by the builder's one call (the guide's Derived/Test/ToyasCard.lean, 'card_holds'). Laid BY PROGRAM, IN A SANDBOX (cutbox-door.mjs). By AI agents, Wed Nov 11 2026. No macro, syntax, notation, axiom, sorry.
-/
import Derived.Test.Qxb6604498aDoorRows
import GoSem.ClaimSeven
namespace Go.Proofs.Qxb6604498aDoor
namespace Rows

/-- THE TIED CARD OF 'zzlaws_internal_table_b1.FnNewArchiveKeyHoldsLastFoldedName'. -/
def fnNewArchiveKeyHoldsLastFoldedNameCard : Claim7 := { stood := { row := fnNewArchiveKeyHoldsLastFoldedNameRow, standIns := [], harness := (true, "b86bc835ee1ac433b317c5edc52755a95312487102867b31e47df221fea79a26"), looks := false }, kinds := [], alts := [], laidByText := true, laidKinds := [.data, .pinned, .pinned], laidTests := true, laidLooks := .later }
def FnNewArchiveKeyHoldsLastFoldedNameCardSaid : Prop := Claim7.holds Tryd.pinned (.plain (OpenSpec.ofChange fnNewArchiveKeyHoldsLastFoldedNameSpec)) fnNewArchiveKeyHoldsLastFoldedNameCard

/-- THE TIED CARD OF 'zzlaws_internal_table_b1.FnNewArchiveHoldsEachFoldedNameOnce'. -/
def fnNewArchiveHoldsEachFoldedNameOnceCard : Claim7 := { stood := { row := fnNewArchiveHoldsEachFoldedNameOnceRow, standIns := [], harness := (true, "b86bc835ee1ac433b317c5edc52755a95312487102867b31e47df221fea79a26"), looks := false }, kinds := [], alts := [], laidByText := true, laidKinds := [.data, .pinned, .pinned], laidTests := true, laidLooks := .later }
def FnNewArchiveHoldsEachFoldedNameOnceCardSaid : Prop := Claim7.holds Tryd.pinned (.plain (OpenSpec.ofChange fnNewArchiveHoldsEachFoldedNameOnceSpec)) fnNewArchiveHoldsEachFoldedNameOnceCard
end Rows
end Go.Proofs.Qxb6604498aDoor
