/-
  SEAT b6604659aD: a slice of LNodes that came in, opened as the walks take it.
-/
import Derived.Test.Qxb6604659aDoorLift
import Derived.Test.Qxb6604659aDoorForest
import Derived.SliceStrings
import Derived.ChangeArms
import Derived.DataReads
import Derived.Deep.SlicePairs
namespace Go.Proofs.Qxb6604659aDoor
open Go Go.ChangeShapes Go.WideShapes Go.ChangeAt Go.RowKit Go.WideMaps Go.WideElems
set_option linter.unusedVariables false

theorem laidOut : laidOutB Tryd.prog = true := by kernel_rfl
theorem cells46 : Tryd.prog.cellsOf 46 = 6 := by kernel_rfl
theorem cells22 : Tryd.prog.cellsOf 22 = 1 := by kernel_rfl
theorem cells9 : Tryd.prog.cellsOf 9 = 1 := by kernel_rfl
theorem cells3 : Tryd.prog.cellsOf 3 = 1 := by kernel_rfl

theorem lf_more {B : Nat} {w : World} : ∀ {n : Nat} {v : Value}, LF B w n v → LF B w (n + 1) v
  | 0, v, h => .inl h
  | n + 1, v, h => by
    rcases h with h | ⟨b, off, len, cap, rfl, hl, he⟩
    · exact .inl h
    · refine .inr ⟨b, off, len, cap, rfl, hl, fun i hi => ?_⟩
      obtain ⟨kd, fl, ln, cl, tx, ag, h1, h2, h3, h4⟩ := he i hi
      exact ⟨kd, fl, ln, cl, tx, ag, h1, h2, h3, lf_more h4⟩

theorem lf_of_trod {H : Type} {enc : TypeId × Value → H} {W : World} (fuel : Nat) : ∀ (v : Value) (x : DataW H × List MemPlace), DataW.trod enc Tryd.prog W 0 (fun _ => true) true fuel 22 [v] = some x → LF maxLen W fuel v := by
  induction fuel using Nat.strongRecOn with
  | ind fuel ih =>
  intro v x h
  rcases DataW.trod_slice Tryd.underlying22 h with ⟨hv, _⟩ | ⟨a, len, cap, elems, rest, n, rfl, hcs, _, hb, hl, hm, hlen, hel, _⟩
  · simp at hv
    subst hv
    cases fuel with
    | zero => exact ⟨none, 0, rfl, fun _ => rfl⟩
    | succ n => exact .inl ⟨none, 0, rfl, fun _ => rfl⟩
  · simp at hcs
    subst hcs
    have each : ∀ i, i < len → ∃ kd fl ln cl tx ag, W.cell? (a.add (i * 6)) = some (.int .i64 kd) ∧ W.cell? (a.add (i * 6 + 1)) = some (.string fl) ∧ W.cell? (a.add (i * 6 + 2)) = some (.int .i64 ln) ∧ W.cell? (a.add (i * 6 + 3)) = some (.int .i64 cl) ∧ W.cell? (a.add (i * 6 + 4)) = some (.string tx) ∧ W.cell? (a.add (i * 6 + 5)) = some ag ∧ fl.size ≤ maxLen ∧ tx.size ≤ maxLen ∧ LF maxLen W n ag := by
      intro i hi
      have hh := hel i hi
      rw [cells46, List.getElem?_eq_getElem (show i < elems.length by omega)] at hh
      obtain ⟨cs', h1, h2⟩ := Option.bind_eq_some_iff.1 hh
      obtain ⟨_, hlen', hcell⟩ := World.cells?_some h1
      obtain ⟨xs, k, hk, hxy, _, hxl, hf⟩ := DataW.trod_struct Tryd.underlying46 h2
      match xs, hxl, cs', hlen' with
      | [y0, y1, y2, y3, y4, y5], _, [v0, v1, v2, v3, v4, v5], _ =>
        have g0 := hf 0 _ rfl
        have g1 := hf 1 _ rfl
        have g2 := hf 2 _ rfl
        have g3 := hf 3 _ rfl
        have g4 := hf 4 _ rfl
        have g5 := hf 5 _ rfl
        simp [cells3, cells9, cells22] at g0 g1 g2 g3 g4 g5
        have e0 := hcell 0 (by omega)
        have e1 := hcell 1 (by omega)
        have e2 := hcell 2 (by omega)
        have e3 := hcell 3 (by omega)
        have e4 := hcell 4 (by omega)
        have e5 := hcell 5 (by omega)
        rw [Go.Deep.add_add] at e0 e1 e2 e3 e4 e5
        obtain ⟨kd, q0, _⟩ := DataW.trod_int Tryd.underlying3 g0
        obtain ⟨fl, q1, _, s1⟩ := DataW.trod_string Tryd.underlying9 g1
        obtain ⟨ln, q2, _⟩ := DataW.trod_int Tryd.underlying3 g2
        obtain ⟨cl, q3, _⟩ := DataW.trod_int Tryd.underlying3 g3
        obtain ⟨tx, q4, _, s4⟩ := DataW.trod_string Tryd.underlying9 g4
        simp at q0 q1 q2 q3 q4
        subst q0; subst q1; subst q2; subst q3; subst q4
        have hag := ih k (by omega) v5 y5 g5
        refine ⟨kd, fl, ln, cl, tx, v5, by simpa using e0, by simpa using e1, by simpa using e2, by simpa using e3, by simpa using e4, by simpa using e5, s1, s4, ?_⟩
        rw [hk]
        exact lf_more hag
    by_cases hn : len = 0
    · subst hn
      exact .inl ⟨some a, cap, rfl, fun h => by cases h⟩
    · obtain ⟨b, off, spot⟩ := a
      have hspot : spot = none := by
        obtain ⟨kd, fl, ln, cl, tx, ag, h0, _⟩ := each 0 (by omega)
        simpa [Addr.add] using World.cell?_spot h0
      subst hspot
      refine .inr ⟨b, off, len, cap, rfl, by omega, fun i hi => ?_⟩
      obtain ⟨kd, fl, ln, cl, tx, ag, h0, h1, h2, h3, h4, h5, s1, s4, h6⟩ := each i hi
      rw [Go.WideShapes.add_plain] at h0 h1 h2 h3 h4 h5
      exact ⟨kd, fl, ln, cl, tx, ag, ⟨h0, by rw [Nat.add_assoc]; exact h1, by rw [Nat.add_assoc]; exact h2, by rw [Nat.add_assoc]; exact h3, by rw [Nat.add_assoc]; exact h4, by rw [Nat.add_assoc]; exact h5⟩, s1, s4, h6⟩
end Go.Proofs.Qxb6604659aDoor
