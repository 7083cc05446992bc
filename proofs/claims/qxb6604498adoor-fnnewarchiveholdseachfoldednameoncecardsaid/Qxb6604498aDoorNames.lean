/-
  SEAT b6604498aD: a slice of strings that came in, opened as the walks take it.
-/
import Derived.Test.Qxb6604498aDoorLift
import Derived.SliceStrings
namespace Go.Proofs.Qxb6604498aDoor
open Go Go.ChangeShapes Go.WideShapes Go.ChangeAt Go.RowKit Go.WideMaps Go.WideElems
set_option linter.unusedVariables false

theorem cells9 : Tryd.prog.cellsOf 9 = 1 := by kernel_rfl
theorem laidOut : laidOutB Tryd.prog = true := by kernel_rfl

theorem open_names {H : Type} {enc : TypeId × Value → H} {W : World} {a0 : Option Addr} {len cap : Nat} {d : DataW H} {p : List MemPlace}
    (h0 : DataW.Trod enc Tryd.prog W 0 (fun _ => true) true 22 (.slice a0 len cap) d p) :
    (len = 0 ∧ (a0 = none → cap = 0)) ∨ (∃ (b off : Nat) (N : Nat → ByteArray), a0 = some ⟨b, off, none⟩ ∧ len ≤ maxLen ∧ b < W.heap.size ∧ (∀ i, (N i).size ≤ maxLen) ∧ ∀ i, i < len → W.cell? ⟨b, off + i, none⟩ = some (.string (N i))) := by
  obtain ⟨fuel, hf⟩ := h0
  rcases open_strings Tryd.underlying22 Tryd.underlying9 cells9 hf with ⟨hcs, _⟩ | ⟨x, l, c, ss, hcs, hp, hl, hm, hz, hx, hcell, hws⟩
  · simp [Value.cells] at hcs
    exact .inl ⟨hcs.2.1, fun _ => hcs.2.2⟩
  · simp [Value.cells] at hcs
    obtain ⟨rfl, rfl, rfl⟩ := hcs
    by_cases hn : len = 0
    · exact .inl ⟨hn, fun h => by cases h⟩
    · right
      have hsl : ss.length = cap := by simpa using hz
      obtain ⟨b, off, spot⟩ := x
      have hspot : spot = none := by simpa [Addr.add] using World.cell?_spot (hcell 0 (by omega))
      subst hspot
      have hc : ∀ i, i < len → W.cell? ⟨b, off + i, none⟩ = some (.string (ss.getD i ByteArray.empty)) := fun i hi => by rw [← Go.WideShapes.add_plain]; exact hcell i (by omega)
      refine ⟨b, off, fun i => ss.getD i ByteArray.empty, rfl, by omega, ?_, ?_, hc⟩
      · have h0 := hc 0 (by omega)
        rcases Nat.lt_or_ge b W.heap.size with h | h
        · exact h
        · have : W.heap[b]? = none := Array.getElem?_eq_none h
          simp [World.cell?, this] at h0
      · intro i
        show (ss.getD i ByteArray.empty).size ≤ maxLen
        rw [List.getD_eq_getElem?_getD]
        cases hi : ss[i]? with
        | none => simp [maxLen]
        | some s => exact hws s (List.mem_of_getElem? hi)
end Go.Proofs.Qxb6604498aDoor
