/-
  SEAT b6604659aD: THE STATEMENT 'Rows.FnTakeOptionsRestIsSettledCardSaid': the walk lifted to the row, the row to the tied card.
-/
import Derived.Test.Qxb6604659aDoorCards
import Derived.Test.Qxb6604659aDoorKeys
import Derived.Test.Qxb6604659aDoorLaw5
namespace Go.Proofs.Qxb6604659aDoor
open Go Go.ChangeShapes Go.WideShapes Go.ChangeAt Go.RowKit Go.WideMaps Go.WideElems
open Go.ChangeMaps (open_string shut_string)
set_option linter.unusedVariables false

set_option maxRecDepth 100000 in
theorem rest_lifted (os : Os) (started : os.Started) (H : Type) (enc : TypeId × Value → H) :
    ReturnsInHanded {} Tryd.checked os 5 .any (fun w args => (Rows.fnTakeOptionsRestIsSettledSpec.pre enc Tryd.prog Tryd.f5 Rows.fnTakeOptionsRestIsSettledRow.domain false w args ∧ laidMetH Tryd.prog Rows.fnTakeOptionsRestIsSettledRow.laid w) ∧ sizedMet enc Tryd.prog Tryd.f5 (OpenSpec.ofChange Rows.fnTakeOptionsRestIsSettledSpec) false w args)
      (Rows.fnTakeOptionsRestIsSettledSpec.post enc Tryd.prog Tryd.f5 false true false false) := by
  refine handed_and_shaped (C := Tryd.checked) (X := fun w _ => laidMetH Tryd.prog Rows.fnTakeOptionsRestIsSettledRow.laid w) (fun _ _ _ hh h => h.of_heap hh) own started (by kernel_rfl) Tryd.func5
    (ChangeSpec.witness_shaped (enc := enc) (C := Tryd.checked) (os := os) (X := fun w _ => laidMetH Tryd.prog Rows.fnTakeOptionsRestIsSettledRow.laid w) false (World.laidAll Tryd.prog os Rows.fnTakeOptionsRestIsSettledRow.laid) #[.slice none 0 0, .slice none 0 0] 8 (World.laidAll_os _ _ _)
      (World.shaped_of_ZipB (by kernel_rfl) (by kernel_rfl)) (by kernel_rfl) (by kernel_rfl) (by kernel_rfl)
      (by rw [MakeChecks.laidMetH_plain _ _ _ (by kernel_rfl)]; exact laidMet_laidAll _ (by kernel_rfl) (by kernel_rfl))) ?_
  intro W base args ds gs before hval0 hW hcnd _ hL hsh
  have hval : ∀ (j : Nat) t v, Tryd.f5.params[j]? = some t → args[j]? = some v → Value.okWide Tryd.prog W .any base t v := hval0
  have hW' := hW
  obtain ⟨p, q, hA0, hV, rfl, _, _⟩ := hW
  have hA : DataW.TrodAll enc Tryd.prog W 0 (fun _ => true) true Tryd.f5.params.toList args.toList ds p := hA0
  rw [Tryd.params5] at hA hval
  obtain ⟨v0, v1, d0, d1, p0, p1, rfl, rfl, rfl, h0, h1⟩ := trodAll_two hA
  obtain ⟨rfl, rfl⟩ := trodVars_none hV
  obtain ⟨a0, len0, cap0, rfl⟩ := okWide_slice Tryd.underlying22 (hval 0 22 v0 rfl rfl)
  obtain ⟨a1, len1, cap1, rfl⟩ := okWide_slice Tryd.underlying35 (hval 1 35 v1 rfl rfl)
  have k0 := h0
  have k1 := h1
  have lt0 : ∀ x ∈ p0, x.block < W.heap.size := by obtain ⟨m, hm⟩ := k0; exact DataW.trod_lt m _ _ _ hm
  have lt1 : ∀ x ∈ p1, x.block < W.heap.size := by obtain ⟨m, hm⟩ := k1; exact DataW.trod_lt m _ _ _ hm
  have hcall : Calls Tryd.prog 5 #[.slice a0 len0 cap0, .slice a1 len1 cap1] W fun e w' => e = .returned (.bool true) ∧ Below W.heap.size W w' := by
    obtain ⟨fuel, hf⟩ := k0
    obtain ⟨N, hN1, hN2, hN3⟩ := open_keys h1
    exact law5_any fuel _ _ N len1 W hsh (lf_of_trod fuel _ _ hf) hN1 hN2 (fun i _ => hN3 i)
  clear hA0 hval0
  refine hcall.mono fun e W' ⟨he, bel⟩ => ?_
  subst he
  exact ⟨_, rfl, _, _, _, [], _, [], hW', trodAll_mk1 (shut_bool Tryd.underlying4 _), trodAll_mk2 (Below.trod laidOut (by kernel_rfl) (of_decide_eq_true (by kernel_rfl)) k0 bel lt0) (Below.trod laidOut (by kernel_rfl) (of_decide_eq_true (by kernel_rfl)) k1 bel lt1), rfl, bel.frame _, fun h => by cases h⟩

theorem rest_holds : Rows.FnTakeOptionsRestIsSettledSaid :=
  OpenClaim.holds_of_wide 5 Tryd.f5 rfl rfl rfl rfl rfl rfl rfl ⟨rfl, rfl, rfl, rfl, rfl⟩ rfl rfl rfl rfl rfl (by kernel_rfl) Tryd.func5 (by kernel_rfl)
    (of_decide_eq_true (by kernel_rfl)) (by unfold Func.isWrapper; first | (rw [if_pos (by decide +kernel)]; kernel_rfl) | (rw [if_neg (by decide +kernel)]; exact ⟨rfl, rfl⟩))
    (fun os started H enc _ => rest_lifted os started H enc)

/-- THE STATEMENT. -/
theorem fnTakeOptionsRestIsSettled_card : Rows.FnTakeOptionsRestIsSettledCardSaid :=
  Claim7.holds_tied_plain_at .later [] Rows.fnTakeOptionsRestIsSettledCard.laidKinds true Rows.fnTakeOptionsRestIsSettledCard.stood.harness false rest_holds (fun _ h => by cases h) (by kernel_rfl) (fun _ h => by cases h) fnTakeOptionsRestIsSettled_row_tie rfl ⟨rfl, rfl⟩ (by kernel_rfl) rfl
    (fun f fn hf hfn => by
      obtain rfl : f = 5 := Option.some.inj ((show Tryd.prog.funcNamed Rows.fnTakeOptionsRestIsSettledRow.func = some 5 by kernel_rfl).symm.trans hf) |>.symm
      obtain rfl : fn = Tryd.f5 := (Option.some.inj (Tryd.func5.symm.trans hfn)).symm
      exact ⟨by kernel_rfl, fun j t ht => by
        rw [Tryd.params5] at ht
        have hm : t ∈ [22, 35] := by simpa using Array.mem_of_getElem? ht
        have hall : ([22, 35].all fun u => !Tryd.prog.wantsStandIn u) = true := by kernel_rfl
        exact (show Tryd.prog.wantsStandIn t = false by simpa using List.all_eq_true.1 hall t hm)⟩)
    (by kernel_rfl)
end Go.Proofs.Qxb6604659aDoor
