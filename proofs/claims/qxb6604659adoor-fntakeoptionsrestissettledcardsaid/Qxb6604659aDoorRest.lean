/-
  SEAT b6604659aD: the LNodes, the nodes made of them and the rest, as lists; the plain laws of the filter.
-/
import Derived.Test.Qxb6604659aDoorTake
namespace Go.Proofs.Qxb6604659aDoor
open Go Go.RowKit Go.Maps
set_option linter.unusedVariables false
set_option linter.unusedSimpArgs false

/-- the LNodes' kinds and texts. -/
def ARow (w : World) (v : Value) (ns : List Nd) : Prop :=
  ∃ a c, v = .slice a ns.length c ∧ (0 < ns.length → ∃ b off, a = some ⟨b, off, none⟩ ∧ ∀ i x, ns[i]? = some x → w.cell? ⟨b, off + i * 6, none⟩ = some (.int .i64 x.kd) ∧ w.cell? ⟨b, off + i * 6 + 4, none⟩ = some (.string x.tx))
theorem ARow.below {w w' : World} {v : Value} {ns : List Nd} (h : ARow w v ns) (hb : Below w.heap.size w w') : ARow w' v ns := by
  obtain ⟨a, c, h1, h3⟩ := h
  refine ⟨a, c, h1, fun hn => ?_⟩
  obtain ⟨b, off, hF, h5⟩ := h3 hn
  exact ⟨b, off, hF, fun i x hx => ⟨cell_below hb (h5 i x hx).1, cell_below hb (h5 i x hx).2⟩⟩

theorem rows_of {base : Nat} {w0 w : World} {n : Nat} {v nv : Value} (h : PConv 1048576 base w0 w n v nv) : ∃ ns : List Nd, ns.length ≤ 1048576 ∧ ARow w0 v ns ∧ NRow w nv ns := by
  have empty : ∀ v nv, NoElems v → PNoCap nv → ∃ ns : List Nd, ns.length ≤ 1048576 ∧ ARow w0 v ns ∧ NRow w nv ns := by
    rintro v nv ⟨a, c, rfl, _⟩ ⟨a', rfl⟩
    exact ⟨[], by simp, ⟨a, c, rfl, fun h => by simp at h⟩, a', 0, rfl, fun _ => ⟨rfl, rfl⟩, fun h => by simp at h, fun x hx => by cases hx⟩
  cases n with
  | zero => exact empty v nv h.1 h.2
  | succ n =>
    rcases h with h | ⟨b, off, len, cap, F, rfl, rfl, hF, hl, he⟩
    · exact empty v nv h.1 h.2
    · have each : ∀ i, ∃ x : Nd, i < len → (w0.cell? ⟨b, off + i * 6, none⟩ = some (.int .i64 x.kd) ∧ w0.cell? ⟨b, off + i * 6 + 4, none⟩ = some (.string x.tx)) ∧ w.cell? ⟨F, i, none⟩ = some (ptr x) ∧ NdAt w x := by
        intro i
        by_cases hi : i < len
        · obtain ⟨kd, fl, ln, cl, tx, ag, p, nag, a1, a2, a3, a4, a5, a6⟩ := he i hi
          exact ⟨⟨p, kd, fl, ln, cl, tx, nag⟩, fun _ => ⟨⟨a1.c0, a1.c4⟩, a3, a5, a2⟩⟩
        · exact ⟨⟨0, 0, ByteArray.empty, 0, 0, ByteArray.empty, undef⟩, fun h => absurd h hi⟩
      obtain ⟨f, hf⟩ := Classical.axiomOfChoice each
      have hlen : ((List.range len).map f).length = len := by simp
      have hget : ∀ i x, ((List.range len).map f)[i]? = some x → i < len ∧ x = f i := by
        intro i x hx
        rw [List.getElem?_map] at hx
        by_cases hi : i < len
        · rw [List.getElem?_range hi] at hx
          simp at hx
          exact ⟨hi, hx.symm⟩
        · rw [List.getElem?_eq_none (by simpa using hi)] at hx
          simp at hx
      refine ⟨(List.range len).map f, by rw [hlen]; exact hl, ⟨_, cap, by rw [hlen], fun _ => ⟨b, off, rfl, fun i x hx => ?_⟩⟩, _, len, by rw [hlen], (fun h => by cases h), (fun _ => ⟨F, rfl, fun i x hx => ?_⟩), fun x hx => ?_⟩
      · obtain ⟨hi, rfl⟩ := hget i x hx
        exact (hf i hi).1
      · obtain ⟨hi, rfl⟩ := hget i x hx
        exact (hf i hi).2.1
      · obtain ⟨i, hi⟩ := List.mem_iff_getElem?.1 hx
        obtain ⟨hi', rfl⟩ := hget i x hi
        exact (hf i hi').2.2

theorem owns_nrow {w : World} {base n : Nat} {v : Value} {ns : List Nd} (h : w.ownsRow base 27 1 v n (ns.map ptr)) (hd : ∀ x ∈ ns, NdAt w x) : NRow w v ns := by
  have hn : n = ns.length := by have := h.1; simp at this; omega
  subst hn
  rcases h.2 with ⟨rfl, h0⟩ | ⟨g, cap, cur, rfl, hrest⟩
  · exact ⟨none, 0, by rw [h0], fun _ => ⟨h0, rfl⟩, fun h => by omega, hd⟩
  · refine ⟨_, cap, rfl, (fun h => by cases h), fun _ => ⟨g, rfl, fun i x hx => ?_⟩, hd⟩
    have := World.ownsRow.cells h (g := g) rfl i (ptr x) (by rw [List.getElem?_map, hx]; rfl)
    have hadd : (⟨g, 0, none⟩ : Addr).add i = ⟨g, i, none⟩ := by unfold Addr.add; split <;> simp_all
    rw [hadd] at this
    exact this

theorem taken_known (N : Nat → ByteArray) (nk : Nat) (fk : ByteArray) (fail : Bool) (x : Nd) : isTaken N nk fk fail x = (x.kd == 2 && knownK x.tx N nk fk fail) := by
  unfold isTaken setter knownK
  cases (fail && isKey x.tx fk) <;> cases hasKey x.tx N nk <;> simp

theorem at_place {α : Type} (f : α → Bool) : ∀ (l : List α) (k : Nat) (x : α), l[k]? = some x → f x = true → (l.filter f)[((l.take k).filter f).length]? = some x
  | [], k, x, h, _ => by simp at h
  | a :: l, 0, x, h, hf => by
    simp at h
    subst h
    simp [hf]
  | a :: l, k + 1, x, h, hf => by
    have ih := at_place f l k x (by simpa using h) hf
    rw [List.take_succ_cons]
    by_cases ha : f a = true
    · rw [List.filter_cons_of_pos ha, List.filter_cons_of_pos ha]
      simpa using ih
    · rw [List.filter_cons_of_neg ha, List.filter_cons_of_neg ha]
      exact ih
theorem place_le {α : Type} (f : α → Bool) (l : List α) (k : Nat) : ((l.take k).filter f).length ≤ k :=
  Nat.le_trans (List.length_filter_le _ _) (by simp; omega)
end Go.Proofs.Qxb6604659aDoor
