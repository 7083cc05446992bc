/-
  DERIVED. GIVEN WITH THE SEED: THE CARDS: each row of Qxb6604659aDoorRows.lean that lists a variable, with what it lists TIED to the program's text (the seventh form; the later family's looks); each row that meets fmt, with fmt's text TOLD by the authors' own Lean function (tested against real Go, not proved from fmt's source: count such statements apart). THE CARD IS WHAT COUNTS. Prove the row's statement (the work); the ties are given (Qxb6604659aDoorTie.lean); close each card by the builder's one call (the guide's Derived/Test/ToyasCard.lean, 'card_holds'). Laid BY PROGRAM, IN A SANDBOX (cutbox-door.mjs). By AI agents, Wed Nov 11 2026. No macro, syntax, notation, axiom, sorry.
-/
import Derived.Test.Qxb6604659aDoorRows
import GoSem.ClaimSeven
namespace Go.Proofs.Qxb6604659aDoor
namespace Rows

/-- THE TIED CARD OF 'zzlaws_internal_config_b1.FnEqualNodesIgnoresPlaceAndSpelling'. -/
def fnEqualNodesIgnoresPlaceAndSpellingCard : Claim7 := { stood := { row := fnEqualNodesIgnoresPlaceAndSpellingRow, standIns := [], harness := (true, "db5a0b0dccb52d514680b8c52be8521e7f475bc6d89e9bb577b90680d4790803"), looks := false }, kinds := [], alts := [], laidByText := true, laidKinds := [.data, .pinned], laidTests := true, laidLooks := .later }
def FnEqualNodesIgnoresPlaceAndSpellingCardSaid : Prop := Claim7.holds Tryd.pinned (.plain (OpenSpec.ofChange fnEqualNodesIgnoresPlaceAndSpellingSpec)) fnEqualNodesIgnoresPlaceAndSpellingCard

/-- THE TIED CARD OF 'zzlaws_internal_config_b1.FnTakeOptionsMatchesFilterModel'. -/
def fnTakeOptionsMatchesFilterModelCard : Claim7 := { stood := { row := fnTakeOptionsMatchesFilterModelRow, standIns := [], harness := (true, "db5a0b0dccb52d514680b8c52be8521e7f475bc6d89e9bb577b90680d4790803"), looks := false }, kinds := [], alts := [], laidByText := true, laidKinds := [.data, .pinned], laidTests := true, laidLooks := .later }
def FnTakeOptionsMatchesFilterModelCardSaid : Prop := Claim7.holds Tryd.pinned (.plain (OpenSpec.ofChange fnTakeOptionsMatchesFilterModelSpec)) fnTakeOptionsMatchesFilterModelCard

/-- THE TIED CARD OF 'zzlaws_internal_config_b1.FnTakeOptionsRestIsSettled'. -/
def fnTakeOptionsRestIsSettledCard : Claim7 := { stood := { row := fnTakeOptionsRestIsSettledRow, standIns := [], harness := (true, "db5a0b0dccb52d514680b8c52be8521e7f475bc6d89e9bb577b90680d4790803"), looks := false }, kinds := [], alts := [], laidByText := true, laidKinds := [.data, .pinned], laidTests := true, laidLooks := .later }
def FnTakeOptionsRestIsSettledCardSaid : Prop := Claim7.holds Tryd.pinned (.plain (OpenSpec.ofChange fnTakeOptionsRestIsSettledSpec)) fnTakeOptionsRestIsSettledCard
end Rows
end Go.Proofs.Qxb6604659aDoor
