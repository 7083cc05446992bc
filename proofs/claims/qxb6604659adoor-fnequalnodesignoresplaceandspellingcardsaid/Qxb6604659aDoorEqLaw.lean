/-
  SEAT b6604659aD: the law FnEqualNodesIgnoresPlaceAndSpelling walked.
-/
import Derived.Test.Qxb6604659aDoorSize
import Derived.Test.Qxb6604659aDoorCompose
import Derived.ArgAppend
import Derived.OwnWalk
namespace Go.Proofs.Qxb6604659aDoor
open Go Go.RowKit
set_option linter.unusedVariables false
set_option linter.unusedSimpArgs false

set_option maxRecDepth 100000 in
set_option maxHeartbeats 4000000 in
theorem eqLaw_any (n : Nat) (v : Value) (w : World) (hsh : w.ShapedOpen Tryd.prog) (hv : LF maxLen w n v) :
    Calls Tryd.prog 3 #[v] w fun e w' => e = .returned (.bool true) ∧ Below w.heap.size w w' := by
  have HS : Hid (Calls Tryd.prog 6 #[v, .int .i64 0] w fun e w' => SizeSays n w v 0 e w') := lsize_any n v 0 w hv (by omega) (by omega)
  obtain ⟨va, vl, vc, rfl⟩ := hv.slice
  obtain ⟨i0, hi, hz0, hz1, hz2⟩ := info_parts info27
  go_enter Tryd.func3, Tryd.ntmps3
  go_wp2_with fail
  refine HS.out.mono ?_
  rintro e wA ⟨r, rfl, hr0, hr1, hr2, hq⟩
  have hbA : Below w.heap.size w wA := by obtain ⟨q, rfl⟩ := hq; exact below_drewN w q
  by_cases hr : r ≤ 1048576
  · have hfA : LF 1048576 wA n (.slice va vl vc) := (hr2 hr).2.below hbA
    have hshA := shaped_below hsh hbA
    have hszA := hbA.size
    have H7 : Hid (Calls Tryd.prog 7 #[.slice va vl vc] wA fun e w' => ∃ ra rl rc, e = .returned (.slice ra rl rc) ∧ Hid (Resp 1048576 wA.heap.size wA w' n (.slice va vl vc) (.slice ra rl rc) ∧ Below wA.heap.size wA w')) :=
      (respell_any 1048576 (by omega) (by omega) wA n _ wA hfA (Below.refl _ _)).mono fun e w' ⟨nv, he, h1, h2⟩ => by
        obtain ⟨ra, rl, rc, rfl⟩ := h1.slice
        exact ⟨ra, rl, rc, he, h1, h2⟩
    have H8 : Hid (∀ (w0 u : World) (a : Option Addr) (l c : Nat), LF 1048576 w0 n (.slice a l c) → Below w0.heap.size w0 u → Calls Tryd.prog 8 #[.slice a l c] u fun e w' => ∃ ra rl rc, e = .returned (.slice ra rl rc) ∧ Hid (Conv 1048576 u.heap.size w0 w' n (.slice a l c) (.slice ra rl rc) ∧ Below u.heap.size u w')) :=
      fun w0 u a l c hf hb => (toNodes_any 1048576 (by omega) w0 n _ u hf hb).mono fun e w' ⟨nv, he, h1, h2⟩ => by
        obtain ⟨ra, rl, rc, rfl⟩ := h1.slice
        exact ⟨ra, rl, rc, he, h1, h2⟩
    clear HS hr2 hq
    have hbA' : Hid (Below w.heap.size w wA) := hbA
    have hfA' : Hid (LF 1048576 wA n (.slice va vl vc)) := hfA
    clear hbA hfA
    go_wp2_with fail
    refine H7.out.mono ?_
    rintro e w1 ⟨ba, bl, bc, rfl, hR⟩
    have hb1 : Hid (Below wA.heap.size wA w1) := hR.out.2
    go_wp2_with fail
    refine (H8.out wA w1 va vl vc hfA'.out hb1.out).mono ?_
    rintro e w2 ⟨xa, xl, xc, rfl, hC1⟩
    have hb2 : Hid (Below w1.heap.size w1 w2) := hC1.out.2
    have hbA2 : Hid (Below wA.heap.size wA w2) := hb1.out.trans (hb2.out.mono hb1.out.size)
    go_wp2_with fail
    refine (H8.out w1 w2 ba bl bc (Resp.forest hR.out.1) hb2.out).mono ?_
    rintro e w3 ⟨ya, yl, yc, rfl, hC2⟩
    have hb3 : Hid (Below w2.heap.size w2 w3) := hC2.out.2
    have hbA3 : Hid (Below wA.heap.size wA w3) := hbA2.out.trans (hb3.out.mono hbA2.out.size)
    go_wp2_with fail
    refine (H8.out wA w3 va vl vc hfA'.out hbA3.out).mono ?_
    rintro e w4 ⟨za, zl, zc, rfl, hC3⟩
    have hb4 : Hid (Below w3.heap.size w3 w4) := hC3.out.2
    have hbA4 : Hid (Below wA.heap.size wA w4) := hbA3.out.trans (hb4.out.mono hbA3.out.size)
    obtain ⟨zo, l, hz, hnone, hl, ⟨va', vc', hvl⟩, olds, hol, hoc⟩ := Conv.row hC3.out.1
    injection hz with e1 e2 e3
    subst e1; subst e2; subst e3
    injection hvl with _ e4 _
    subst e4
    obtain ⟨xo, l', hx, _, _, ⟨va'', vc'', hvl'⟩, _⟩ := Conv.row hC1.out.1
    injection hx with e1 e2 e3
    subst e1; subst e2; subst e3
    injection hvl' with _ e4 _
    subst e4
    have HO : Hid (∀ b, za = some b → ∀ j u, olds[j]? = some u → w4.cell? (b.add j) = some u) := hoc
    clear hoc
    go_wp2_with (at_builtin; refine wpList_append_grows _ rfl _ _ 25 rfl 27 i0 (.pointer none) 1 8 Tryd.underlying25 hi hz0 hz1 hz2 rfl (by decide) za vl vl olds rfl hnone (by rw [hol, Nat.mul_one]) ?c0 ⟨w4.heap.size + 1, 0, none⟩ 1 1 [.pointer (some ⟨w4.heap.size, 0, none⟩)] rfl rfl ?c1 ?c2 (by omega) (by unfold maxLen; omega) (by omega) ?grow)
    case c0 =>
      intro b hb j u hu
      have h4 := HO.out b hb j u hu
      exact ((((Below.refl w4.heap.size w4).alloc (Nat.le_refl _) _).alloc (by simp) _).cell (World.block_lt_of_cell? w4 _ h4)).trans h4
    case c1 => intro j u hj; match j, hj with | 0, hj => simp at hj; subst hj; simp [Addr.add]
    case c2 => intro u hu; simp at hu; subst hu; rfl
    case grow =>
      intro v' w5 hown hgrow
      have hb5 : Hid (Below w4.heap.size w4 w5) := (((Below.refl w4.heap.size w4).alloc (Nat.le_refl _) _).alloc (by simp) _).grown hgrow (by simp; omega) (fun k h => by cases h)
      rcases hown.2 with ⟨_, h0⟩ | ⟨g, cap, cur, rfl, _⟩
      · omega
      clear hown hgrow
      have hbA5 : Hid (Below wA.heap.size wA w5) := hbA4.out.trans (hb5.out.mono hbA4.out.size)
      have hsh5 : w5.ShapedOpen Tryd.prog := shaped_below hshA hbA5.out
      have hb35 : Below w3.heap.size w3 w5 := hb4.out.trans (hb5.out.mono hb4.out.size)
      have hb25 : Below w2.heap.size w2 w5 := hb3.out.trans (hb35.mono hb3.out.size)
      have hsim : Sim w5 n (.slice xa vl vl) (.slice ya yl yc) := sim_of (Conv.below hC1.out.1 hb25) hR.out.1 (Conv.below hC2.out.1 hb35)
      have K1 : Hid (∀ u, Below w5.heap.size w5 u → Calls Tryd.prog 9 #[.slice xa vl vl, .slice ya yl yc] u fun e w' => e = .returned (.bool true) ∧ Below u.heap.size u w') := fun u hu => nodes_any n _ _ u (shaped_below hsh5 hu) (hsim.below hu)
      have K2 : Hid (∀ u, Below w5.heap.size w5 u → Calls Tryd.prog 9 #[.slice ya yl yc, .slice xa vl vl] u fun e w' => e = .returned (.bool true) ∧ Below u.heap.size u w') := fun u hu => nodes_any n _ _ u (shaped_below hsh5 hu) (hsim.symm.below hu)
      have K3 : Hid (∀ u, Below w5.heap.size w5 u → Calls Tryd.prog 9 #[.slice xa vl vl, .slice xa vl vl] u fun e w' => e = .returned (.bool true) ∧ Below u.heap.size u w') := fun u hu => nodes_any n _ _ u (shaped_below hsh5 hu) (hsim.left.below hu)
      have K4 : Hid (∀ u, Calls Tryd.prog 9 #[.slice xa vl vl, .slice (some ⟨g, 0, none⟩) (vl + 1) cap] u fun e w' => e = .returned (.bool false) ∧ Below u.heap.size u w') := fun u => nodes_unlike _ _ _ _ _ _ u (by omega)
      have K5 : Hid (∀ u, Calls Tryd.prog 9 #[.slice (some ⟨g, 0, none⟩) (vl + 1) cap, .slice xa vl vl] u fun e w' => e = .returned (.bool false) ∧ Below u.heap.size u w') := fun u => nodes_unlike _ _ _ _ _ _ u (by omega)
      clear hsim hb25 hb35 hsh5
      go_wp2_with fail
      refine (K1.out _ (Below.refl _ _)).mono ?_
      rintro e u1 ⟨rfl, c1⟩
      have d1 : Hid (Below w5.heap.size w5 u1) := c1
      clear c1
      go_wp2_with fail
      refine (K2.out _ d1.out).mono ?_
      rintro e u2 ⟨rfl, c2⟩
      have d2 : Hid (Below w5.heap.size w5 u2) := d1.out.trans (c2.mono d1.out.size)
      clear c2
      go_wp2_with fail
      refine (K3.out _ d2.out).mono ?_
      rintro e u3 ⟨rfl, c3⟩
      have d3 : Hid (Below w5.heap.size w5 u3) := d2.out.trans (c3.mono d2.out.size)
      clear c3
      go_wp2_with fail
      refine (K4.out _).mono ?_
      rintro e u4 ⟨rfl, c4⟩
      have d4 : Hid (Below w5.heap.size w5 u4) := d3.out.trans (c4.mono d3.out.size)
      clear c4
      go_wp2_with fail
      refine (K5.out _).mono ?_
      rintro e u5 ⟨rfl, c5⟩
      have d5 : Hid (Below w5.heap.size w5 u5) := d4.out.trans (c5.mono d4.out.size)
      clear c5
      go_wp2_with fail
      go_ret
      have hA5 := hbA5.out.trans (d5.out.mono hbA5.out.size)
      exact ⟨rfl, hbA'.out.trans (hA5.mono hszA)⟩
  · go_wp2_with fail
    go_ret
    exact ⟨rfl, hbA⟩
end Go.Proofs.Qxb6604659aDoor
