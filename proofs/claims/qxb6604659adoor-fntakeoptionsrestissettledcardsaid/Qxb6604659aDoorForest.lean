/-
  SEAT b6604659aD: what a slice of LNodes is in memory: 'LF B w n v': in the world w the slice value v is a forest of depth n at most, its lengths and texts at most B.
-/
import Derived.Test.Qxb6604659aDoorProg
import Derived.WalkKit
import Derived.Below
import Derived.Deep.Draws
namespace Go.Proofs.Qxb6604659aDoor
open Go Go.RowKit
set_option linter.unusedVariables false
set_option linter.unusedSimpArgs false

theorem ret_bool {a b : Bool} (h : a = b) : Ending.returned (.bool a) = .returned (.bool b) := by rw [h]
theorem ret_int {k : IntKind} {a b : Int} (h : a = b) : Ending.returned (.int k a) = .returned (.int k b) := by rw [h]
theorem drewN_two (w : World) (a b : Nat) : (w.drewN a).drewN b = w.drewN (a + b) := by simp
theorem drewN_more {w u : World} (h : ∃ n, u = w.drewN n) (m : Nat) : ∃ n, u.drewN m = w.drewN n := by
  obtain ⟨n, rfl⟩ := h; exact ⟨n + m, drewN_two w n m⟩
theorem below_drewN (w : World) (q : Nat) : Below w.heap.size w (w.drewN q) := ⟨rfl, rfl, rfl, Nat.le_refl _, fun _ _ => rfl⟩

/-- the six cells of an LNode. -/
structure LAt (w : World) (b o : Nat) (kd : Int) (fl : ByteArray) (ln cl : Int) (tx : ByteArray) (ag : Value) : Prop where
  c0 : w.cell? ⟨b, o, none⟩ = some (.int .i64 kd)
  c1 : w.cell? ⟨b, o + 1, none⟩ = some (.string fl)
  c2 : w.cell? ⟨b, o + 2, none⟩ = some (.int .i64 ln)
  c3 : w.cell? ⟨b, o + 3, none⟩ = some (.int .i64 cl)
  c4 : w.cell? ⟨b, o + 4, none⟩ = some (.string tx)
  c5 : w.cell? ⟨b, o + 5, none⟩ = some ag

/-- a slice of no elements, nil or not. -/
def NoElems (v : Value) : Prop := ∃ a c, v = .slice a 0 c ∧ (a = none → c = 0)

def LF (B : Nat) (w : World) : Nat → Value → Prop
  | 0, v => NoElems v
  | n + 1, v => NoElems v ∨ ∃ b off len cap, v = .slice (some ⟨b, off, none⟩) len cap ∧ len ≤ B ∧
      ∀ i, i < len → ∃ kd fl ln cl tx ag, LAt w b (off + i * 6) kd fl ln cl tx ag ∧ fl.size ≤ B ∧ tx.size ≤ B ∧ LF B w n ag

theorem cell_lt {w : World} {b o : Nat} {v : Value} (h : w.cell? ⟨b, o, none⟩ = some v) : b < w.heap.size := by
  rcases Nat.lt_or_ge b w.heap.size with h' | h'
  · exact h'
  · have : w.heap[b]? = none := Array.getElem?_eq_none h'
    simp [World.cell?, this] at h
theorem LAt.lt {w : World} {b o : Nat} {kd : Int} {fl : ByteArray} {ln cl : Int} {tx : ByteArray} {ag : Value} (h : LAt w b o kd fl ln cl tx ag) : b < w.heap.size := cell_lt h.c0
theorem cell_below {w w' : World} (hb : Below w.heap.size w w') {b o : Nat} {v : Value} (h : w.cell? ⟨b, o, none⟩ = some v) : w'.cell? ⟨b, o, none⟩ = some v :=
  (hb.cell (p := ⟨b, o, none⟩) (cell_lt h)).trans h
theorem LAt.below {w w' : World} {b o : Nat} {kd : Int} {fl : ByteArray} {ln cl : Int} {tx : ByteArray} {ag : Value} (h : LAt w b o kd fl ln cl tx ag) (hb : Below w.heap.size w w') : LAt w' b o kd fl ln cl tx ag :=
  ⟨cell_below hb h.c0, cell_below hb h.c1, cell_below hb h.c2, cell_below hb h.c3, cell_below hb h.c4, cell_below hb h.c5⟩
theorem LF.below {B : Nat} {w w' : World} (hb : Below w.heap.size w w') : ∀ {n : Nat} {v : Value}, LF B w n v → LF B w' n v
  | 0, v, h => h
  | n + 1, v, h => by
    rcases h with h | ⟨b, off, len, cap, rfl, hl, he⟩
    · exact .inl h
    · refine .inr ⟨b, off, len, cap, rfl, hl, fun i hi => ?_⟩
      obtain ⟨kd, fl, ln, cl, tx, ag, h1, h2, h3, h4⟩ := he i hi
      exact ⟨kd, fl, ln, cl, tx, ag, h1.below hb, h2, h3, LF.below hb h4⟩
theorem LF.slice {B : Nat} {w : World} : ∀ {n : Nat} {v : Value}, LF B w n v → ∃ a l c, v = .slice a l c
  | 0, v, ⟨a, c, h, _⟩ => ⟨a, 0, c, h⟩
  | n + 1, v, h => by
    rcases h with ⟨a, c, h, _⟩ | ⟨b, off, len, cap, h, _⟩
    · exact ⟨a, 0, c, h⟩
    · exact ⟨_, _, _, h⟩
theorem LF.undrew {B : Nat} {w : World} {q : Nat} : ∀ {n : Nat} {v : Value}, LF B (w.drewN q) n v → LF B w n v
  | 0, v, h => h
  | n + 1, v, h => by
    rcases h with h | ⟨b, off, len, cap, rfl, hl, he⟩
    · exact .inl h
    · refine .inr ⟨b, off, len, cap, rfl, hl, fun i hi => ?_⟩
      obtain ⟨kd, fl, ln, cl, tx, ag, h1, h2, h3, h4⟩ := he i hi
      exact ⟨kd, fl, ln, cl, tx, ag, ⟨h1.c0, h1.c1, h1.c2, h1.c3, h1.c4, h1.c5⟩, h2, h3, LF.undrew h4⟩
end Go.Proofs.Qxb6604659aDoor
