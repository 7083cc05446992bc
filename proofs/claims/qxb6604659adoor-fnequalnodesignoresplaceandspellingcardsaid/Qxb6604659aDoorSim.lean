/-
  SEAT b6604659aD: the likeness of two forests of nodes: two forests of nodes that are alike but for place and spelling are found equal.
-/
import Derived.Test.Qxb6604659aDoorResp
namespace Go.Proofs.Qxb6604659aDoor
open Go Go.RowKit
set_option linter.unusedVariables false
set_option linter.unusedSimpArgs false

/-- two forests of nodes in w, alike but for place and spelling. -/
def Sim (w : World) : Nat → Value → Value → Prop
  | 0, x, y => NoElems x ∧ NoElems y
  | n + 1, x, y => (NoElems x ∧ NoElems y) ∨ ∃ F G len, x = .slice (some ⟨F, 0, none⟩) len len ∧ y = .slice (some ⟨G, 0, none⟩) len len ∧ len ≤ 1048576 ∧
      ∀ i, i < len → ∃ p q kd tx ty ax ay, w.cell? ⟨F, i, none⟩ = some (.pointer (some ⟨p, 0, none⟩)) ∧ w.cell? ⟨G, i, none⟩ = some (.pointer (some ⟨q, 0, none⟩)) ∧ NAt w p kd tx ax ∧ NAt w q kd ty ay ∧
        tx.size ≤ 1048576 ∧ ty.size ≤ 1048576 ∧ (kd = 1 → tx = ty) ∧ (kd ≠ 1 → canon tx.data.toList = canon ty.data.toList) ∧ Sim w n ax ay

theorem NAt.below {w w' : World} {p : Nat} {kd : Int} {tx : ByteArray} {ag : Value} (h : NAt w p kd tx ag) (hb : Below w.heap.size w w') : NAt w' p kd tx ag :=
  ⟨cell_below hb h.c0, cell_below hb h.c4, cell_below hb h.c5⟩
theorem Sim.below {w w' : World} (hb : Below w.heap.size w w') : ∀ {n : Nat} {x y : Value}, Sim w n x y → Sim w' n x y
  | 0, x, y, h => h
  | n + 1, x, y, h => by
    rcases h with h | ⟨F, G, len, rfl, rfl, hl, he⟩
    · exact .inl h
    · refine .inr ⟨F, G, len, rfl, rfl, hl, fun i hi => ?_⟩
      obtain ⟨p, q, kd, tx, ty, ax, ay, h1, h2, h3, h4, h5, h6, h7, h8, h9⟩ := he i hi
      exact ⟨p, q, kd, tx, ty, ax, ay, cell_below hb h1, cell_below hb h2, h3.below hb, h4.below hb, h5, h6, h7, h8, Sim.below hb h9⟩
theorem Sim.slice {w : World} : ∀ {n : Nat} {x y : Value}, Sim w n x y → (∃ a l c, x = .slice a l c) ∧ (∃ a l c, y = .slice a l c)
  | 0, x, y, ⟨⟨a, c, h, _⟩, ⟨a', c', h', _⟩⟩ => ⟨⟨a, 0, c, h⟩, ⟨a', 0, c', h'⟩⟩
  | n + 1, x, y, h => by
    rcases h with ⟨⟨a, c, h, _⟩, ⟨a', c', h', _⟩⟩ | ⟨F, G, len, h, h', _⟩
    · exact ⟨⟨a, 0, c, h⟩, ⟨a', 0, c', h'⟩⟩
    · exact ⟨⟨_, _, _, h⟩, ⟨_, _, _, h'⟩⟩

/-- a region that is shown not to panic, its post held as a letter. -/
theorem wp_region_split {P : Program} {id : Nat} {ops : Array Oper} {b : Bool} {Q : Exit → Act → World → Prop} {a : Act} {w : World}
    (h : ∀ R : Exit → Act → World → Prop, Hid (∀ a u, Q .normal a u → R .normal a u) → (Code.region id ops b).wp P (NoPanic R) a w) : (Code.region id ops b).wp P Q a w :=
  wp_region_noPanic (h Q fun _ _ h => h)
/-- 'wpAnyH_take' with the slot's number given. -/
theorem wpAnyH_takeAt {P : Program} {ops : Array Oper} {Q : Exit → Act → World → Prop} {md : Region.Mode} {S : World → Prop} {i : Nat} (d : Nat) {oi : Oper} {v : Value} {fuel : Nat} {listed : Array Bool} {a : Act} {w : World}
    (hi : ops[i]? = some oi) (hd : oi.dst = some d) (hs : Region.noSelect ops = true) (hf : Region.free md ops listed i = true) (hr : (Region.ready md ops listed).contains i = true)
    (hQ : ∀ c a w, Q (.panic c) (a.put oi.dst v) w → Q (.panic c) a w) (hy : YieldsIf P ops S oi v a) (hS : S w)
    (h : wpAnyH P md ops Q S fuel (listed.setIfInBounds i true) (a.put (some d) v) w) : wpAnyH P md ops Q S (fuel + 1) listed a w :=
  wpAnyH_take hi hs hf hr hQ hy hS (hd ▸ h)
end Go.Proofs.Qxb6604659aDoor
