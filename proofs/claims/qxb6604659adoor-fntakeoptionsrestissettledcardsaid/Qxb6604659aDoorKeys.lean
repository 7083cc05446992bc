/-
  SEAT b6604659aD: a slice of strings that came in, opened as the walks take it.
-/
import Derived.Test.Qxb6604659aDoorReads
import Derived.Test.Qxb6604659aDoorKnown
import Derived.SliceStrings
namespace Go.Proofs.Qxb6604659aDoor
open Go Go.ChangeShapes Go.WideShapes Go.ChangeAt Go.RowKit Go.WideMaps Go.WideElems
set_option linter.unusedVariables false

theorem open_keys {H : Type} {enc : TypeId × Value → H} {W : World} {a0 : Option Addr} {len cap : Nat} {d : DataW H} {p : List MemPlace}
    (h0 : DataW.Trod enc Tryd.prog W 0 (fun _ => true) true 35 (.slice a0 len cap) d p) :
    ∃ N : Nat → ByteArray, SAt W (.slice a0 len cap) N len ∧ len ≤ maxLen ∧ ∀ i, (N i).size ≤ maxLen := by
  obtain ⟨fuel, hf⟩ := h0
  rcases open_strings Tryd.underlying35 Tryd.underlying9 cells9 hf with ⟨hcs, _⟩ | ⟨x, l, c, ss, hcs, hp, hl, hm, hz, hx, hcell, hws⟩
  · simp [Value.cells] at hcs
    obtain ⟨h1, h2, h3⟩ := hcs
    subst h2; subst h3
    exact ⟨fun _ => ByteArray.empty, ⟨a0, 0, rfl, fun _ => ⟨rfl, rfl⟩, fun h => by omega⟩, by simp [maxLen], fun i => by simp [maxLen]⟩
  · simp [Value.cells] at hcs
    obtain ⟨rfl, rfl, rfl⟩ := hcs
    refine ⟨fun i => ss.getD i ByteArray.empty, ⟨_, cap, rfl, (fun h => by cases h), fun hn => ?_⟩, by omega, ?_⟩
    · have hsl : ss.length = cap := by simpa using hz
      obtain ⟨b, off, spot⟩ := x
      have hspot : spot = none := by simpa [Addr.add] using World.cell?_spot (hcell 0 (by omega))
      subst hspot
      exact ⟨b, off, rfl, fun i hi => by rw [← Go.WideShapes.add_plain]; exact hcell i (by omega)⟩
    · intro i
      show (ss.getD i ByteArray.empty).size ≤ maxLen
      rw [List.getD_eq_getElem?_getD]
      cases hi : ss[i]? with
      | none => simp [maxLen]
      | some s => exact hws s (List.mem_of_getElem? hi)
end Go.Proofs.Qxb6604659aDoor
