/-
  SEAT b6604659aD: the forests of nodes made of a forest of LNodes and of its respelling are alike.
-/
import Derived.Test.Qxb6604659aDoorNodes
namespace Go.Proofs.Qxb6604659aDoor
open Go Go.RowKit
set_option linter.unusedVariables false
set_option linter.unusedSimpArgs false

theorem LAt.same {w : World} {b o : Nat} {kd kd' : Int} {fl fl' : ByteArray} {ln cl ln' cl' : Int} {tx tx' : ByteArray} {ag ag' : Value} (h : LAt w b o kd fl ln cl tx ag) (h' : LAt w b o kd' fl' ln' cl' tx' ag') : kd = kd' ∧ tx = tx' ∧ ag = ag' := by
  have h0 := h.c0.symm.trans h'.c0
  have h4 := h.c4.symm.trans h'.c4
  have h5 := h.c5.symm.trans h'.c5
  simp at h0 h4 h5
  exact ⟨h0, h4, h5⟩

theorem noElems_len {a : Option Addr} {l c : Nat} (h : NoElems (.slice a l c)) : l = 0 := by
  obtain ⟨a', c', h, _⟩ := h
  injection h

theorem Conv.noElems {B base : Nat} {w0 w : World} : ∀ {n : Nat} {v nv : Value}, Conv B base w0 w n v nv → NoElems v → NoElems nv
  | 0, v, nv, h, _ => h.2.noElems
  | n + 1, v, nv, h, hv => by
    rcases h with h | ⟨b, off, len, cap, F, rfl, rfl, hF, hl, he⟩
    · exact h.2.noElems
    · obtain rfl := noElems_len hv
      exact ⟨_, _, rfl, fun h => by cases h⟩
theorem Resp.noElems {B base : Nat} {w0 w : World} : ∀ {n : Nat} {v nv : Value}, Resp B base w0 w n v nv → NoElems v → NoElems nv
  | 0, v, nv, h, _ => h.2
  | n + 1, v, nv, h, hv => by
    rcases h with h | ⟨b, off, len, cap, F, rfl, rfl, hF, hl, he⟩
    · exact h.2
    · obtain rfl := noElems_len hv
      exact ⟨_, _, rfl, fun h => by cases h⟩

theorem sim_of {base1 base2 base3 : Nat} {w0 w1 w : World} : ∀ {n : Nat} {a b na nb : Value}, Conv 1048576 base1 w0 w n a na → Resp 1048576 base2 w0 w1 n a b → Conv 1048576 base3 w1 w n b nb → Sim w n na nb
  | 0, a, b, na, nb, h1, h2, h3 => ⟨h1.2.noElems, h3.2.noElems⟩
  | n + 1, a, b, na, nb, h1, h2, h3 => by
    by_cases hna : NoElems a
    · exact .inl ⟨Conv.noElems h1 hna, Conv.noElems h3 (Resp.noElems h2 hna)⟩
    rcases h1 with h1 | ⟨b1, off, len, cap, F, rfl, rfl, hF, hl, he⟩
    · exact absurd h1.1 hna
    rcases h2 with h2 | ⟨b1', off', len', cap', G, hv, rfl, hG, hl', he'⟩
    · exact absurd h2.1 hna
    injection hv with hv1 hv2 hv3
    injection hv1 with hv1
    injection hv1 with hv1 hv4 _
    subst hv1; subst hv2; subst hv3; subst hv4
    rcases h3 with h3 | ⟨b3, off3, len3, cap3, H, hv, rfl, hH, hl3, he3⟩
    · obtain rfl := noElems_len h3.1
      exact absurd ⟨_, _, rfl, fun h => by cases h⟩ hna
    injection hv with hv1 hv2 hv3
    injection hv1 with hv1
    injection hv1 with hv1 hv4 _
    subst hv1; subst hv2; subst hv3; subst hv4
    refine .inr ⟨F, H, len, rfl, rfl, hl, fun i hi => ?_⟩
    obtain ⟨kd, fl, ln, cl, tx, ag, p, nag, a1, a2, a3, a4, a5, a6⟩ := he i hi
    obtain ⟨kd', fl', ln', cl', tx', ag', fl2, ln2, cl2, tx2, ag2, c1, c2, c3, c4, c5, c6, c7⟩ := he' i hi
    obtain ⟨kd3, fl3, ln3, cl3, tx3, ag3, p3, nag3, d1, d2, d3, d4, d5, d6⟩ := he3 i hi
    obtain ⟨rfl, rfl, rfl⟩ := a1.same c1
    obtain ⟨rfl, rfl, rfl⟩ := c2.same d1
    exact ⟨p, p3, kd, tx, tx2, nag, nag3, a3, d3, a5, d5, a2, d2, fun h => (c5 h).symm, fun h => (c6 h).symm, sim_of a6 c7 d6⟩

theorem Sim.symm {w : World} : ∀ {n : Nat} {x y : Value}, Sim w n x y → Sim w n y x
  | 0, x, y, h => ⟨h.2, h.1⟩
  | n + 1, x, y, h => by
    rcases h with h | ⟨F, G, len, rfl, rfl, hl, he⟩
    · exact .inl ⟨h.2, h.1⟩
    · refine .inr ⟨G, F, len, rfl, rfl, hl, fun i hi => ?_⟩
      obtain ⟨p, q, kd, tx, ty, ax, ay, h1, h2, h3, h4, h5, h6, h7, h8, h9⟩ := he i hi
      exact ⟨q, p, kd, ty, tx, ay, ax, h2, h1, h4, h3, h6, h5, fun h => (h7 h).symm, fun h => (h8 h).symm, Sim.symm h9⟩
theorem Sim.left {w : World} : ∀ {n : Nat} {x y : Value}, Sim w n x y → Sim w n x x
  | 0, x, y, h => ⟨h.1, h.1⟩
  | n + 1, x, y, h => by
    rcases h with h | ⟨F, G, len, rfl, rfl, hl, he⟩
    · exact .inl ⟨h.1, h.1⟩
    · refine .inr ⟨F, F, len, rfl, rfl, hl, fun i hi => ?_⟩
      obtain ⟨p, q, kd, tx, ty, ax, ay, h1, h2, h3, h4, h5, h6, h7, h8, h9⟩ := he i hi
      exact ⟨p, p, kd, tx, tx, ax, ax, h1, h1, h3, h3, h5, h5, fun _ => rfl, fun _ => rfl, Sim.left h9⟩

theorem Conv.below {B base : Nat} {w0 w w' : World} {n : Nat} {v nv : Value} (h : Conv B base w0 w n v nv) (hb : Below w.heap.size w w') : Conv B base w0 w' n v nv :=
  h.stay fun j _ hj => hb.block j hj

/-- what the append onto the third forest asks: its length is the LNodes', it has no room, its cells are there. -/
theorem Conv.row {base : Nat} {w0 w : World} {n : Nat} {v nv : Value} (h : Conv 1048576 base w0 w n v nv) : ∃ ao l, nv = .slice ao l l ∧ (ao = none → l = 0 ∧ l = 0) ∧ l ≤ 1048576 ∧ (∃ a c, v = .slice a l c) ∧
    ∃ olds : List Value, olds.length = l ∧ ∀ b, ao = some b → ∀ j u, olds[j]? = some u → w.cell? (b.add j) = some u := by
  have empty : ∀ v nv, NoElems v → NoCap nv → ∃ ao l, nv = .slice ao l l ∧ (ao = none → l = 0 ∧ l = 0) ∧ l ≤ 1048576 ∧ (∃ a c, v = .slice a l c) ∧
      ∃ olds : List Value, olds.length = l ∧ ∀ b, ao = some b → ∀ j u, olds[j]? = some u → w.cell? (b.add j) = some u := by
    rintro v nv ⟨a, c, rfl, _⟩ ⟨ao, rfl⟩
    exact ⟨ao, 0, rfl, fun _ => ⟨rfl, rfl⟩, by omega, ⟨a, c, rfl⟩, [], rfl, fun b _ j u hu => by simp at hu⟩
  cases n with
  | zero => exact empty v nv h.1 h.2
  | succ n =>
    rcases h with h | ⟨b, off, len, cap, F, rfl, rfl, hF, hl, he⟩
    · exact empty v nv h.1 h.2
    · refine ⟨some ⟨F, 0, none⟩, len, rfl, (fun h => by cases h), hl, ⟨_, _, rfl⟩, (List.range len).map (fun j => (w.cell? ⟨F, j, none⟩).getD undef), by simp, ?_⟩
      intro b' hb' j u hu
      injection hb' with hb'
      subst hb'
      rw [List.getElem?_map] at hu
      by_cases hj : j < len
      · rw [List.getElem?_range hj] at hu
        obtain ⟨kd, fl, ln, cl, tx, ag, p, nag, a1, a2, a3, a4, a5, a6⟩ := he j hj
        simp [a3] at hu
        subst hu
        have hadd : (⟨F, 0, none⟩ : Addr).add j = ⟨F, j, none⟩ := by unfold Addr.add; split <;> simp_all
        rw [hadd]; exact a3
      · rw [List.getElem?_eq_none (by simpa using hj)] at hu
        simp at hu
end Go.Proofs.Qxb6604659aDoor
