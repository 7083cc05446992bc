/-
  SEAT b6604498aD: THE STATEMENT 'Rows.FnNewArchiveKeyHoldsLastFoldedNameCardSaid': the walk lifted to the row, the row to the tied card.
-/
import Derived.Test.Qxb6604498aDoorCards
import Derived.Test.Qxb6604498aDoorNames
import Derived.Test.Qxb6604498aDoorLaw1
namespace Go.Proofs.Qxb6604498aDoor
open Go Go.ChangeShapes Go.WideShapes Go.ChangeAt Go.RowKit Go.WideMaps Go.WideElems
open Go.ChangeMaps (open_string shut_string)
set_option linter.unusedVariables false

set_option maxRecDepth 100000 in
theorem key_lifted (os : Os) (started : os.Started) (H : Type) (enc : TypeId × Value → H) :
    ReturnsInHanded {} Tryd.checked os 3 .any (fun w args => (Rows.fnNewArchiveKeyHoldsLastFoldedNameSpec.pre enc Tryd.prog Tryd.f3 Rows.fnNewArchiveKeyHoldsLastFoldedNameRow.domain false w args ∧ laidMetH Tryd.prog Rows.fnNewArchiveKeyHoldsLastFoldedNameRow.laid w) ∧ sizedMet enc Tryd.prog Tryd.f3 (OpenSpec.ofChange Rows.fnNewArchiveKeyHoldsLastFoldedNameSpec) false w args)
      (Rows.fnNewArchiveKeyHoldsLastFoldedNameSpec.post enc Tryd.prog Tryd.f3 false true false false) := by
  refine handed_and_shaped (C := Tryd.checked) (X := fun w _ => laidMetH Tryd.prog Rows.fnNewArchiveKeyHoldsLastFoldedNameRow.laid w) (fun _ _ _ hh h => h.of_heap hh) own started (by kernel_rfl) Tryd.func3
    (ChangeSpec.witness_shaped (enc := enc) (C := Tryd.checked) (os := os) (X := fun w _ => laidMetH Tryd.prog Rows.fnNewArchiveKeyHoldsLastFoldedNameRow.laid w) false (World.laidAll Tryd.prog os Rows.fnNewArchiveKeyHoldsLastFoldedNameRow.laid) #[.slice none 0 0, .string ByteArray.empty] 8 (World.laidAll_os _ _ _)
      (World.shaped_of_ZipB (by kernel_rfl) (by kernel_rfl)) (by kernel_rfl) (by kernel_rfl) (by kernel_rfl)
      (by rw [MakeChecks.laidMetH_plain _ _ _ (by kernel_rfl)]; exact laidMet_laidAll _ (by kernel_rfl) (by kernel_rfl))) ?_
  intro W base args ds gs before hval0 hW hcnd _ hL hsh
  have hval : ∀ (j : Nat) t v, Tryd.f3.params[j]? = some t → args[j]? = some v → Value.okWide Tryd.prog W .any base t v := hval0
  have hW' := hW
  obtain ⟨p, q, hA0, hV, rfl, _, _⟩ := hW
  have hA : DataW.TrodAll enc Tryd.prog W 0 (fun _ => true) true Tryd.f3.params.toList args.toList ds p := hA0
  rw [Tryd.params3] at hA hval
  obtain ⟨v0, v1, d0, d1, p0, p1, rfl, rfl, rfl, h0, h1⟩ := trodAll_two hA
  obtain ⟨rfl, rfl⟩ := trodVars_none hV
  obtain ⟨a0, len0, cap0, rfl⟩ := okWide_slice Tryd.underlying22 (hval 0 22 v0 rfl rfl)
  have k0 := h0
  have lt0 : ∀ x ∈ p0, x.block < W.heap.size := by obtain ⟨m, hm⟩ := k0; exact DataW.trod_lt m _ _ _ hm
  obtain ⟨s, rfl, rfl, rfl, hs⟩ := open_string Tryd.underlying9 (hval 1 9 v1 rfl rfl) h1
  have hcall : Calls Tryd.prog 3 #[.slice a0 len0 cap0, .string s] W fun e w' => e = .returned (.bool true) ∧ Below W.heap.size W w' := by
    rcases open_names h0 with ⟨rfl, hcap⟩ | ⟨b, off, N, rfl, hn, hb, hN, hc⟩
    · exact key_walk_zero a0 cap0 s W hcap hs
    · exact key_walk b off len0 cap0 N s W hs hn hN hb hc
  clear hA0 hval0
  refine hcall.mono fun e W' ⟨he, bel⟩ => ?_
  subst he
  exact ⟨_, rfl, _, _, _, [], _, [], hW', trodAll_mk1 (shut_bool Tryd.underlying4 _), trodAll_mk2 (Below.trod laidOut (by kernel_rfl) (of_decide_eq_true (by kernel_rfl)) k0 bel lt0) (shut_string Tryd.underlying9 hs), rfl, bel.frame _, fun h => by cases h⟩

theorem key_holds : Rows.FnNewArchiveKeyHoldsLastFoldedNameSaid :=
  OpenClaim.holds_of_wide 3 Tryd.f3 rfl rfl rfl rfl rfl rfl rfl ⟨rfl, rfl, rfl, rfl, rfl⟩ rfl rfl rfl rfl rfl (by kernel_rfl) Tryd.func3 (by kernel_rfl)
    (of_decide_eq_true (by kernel_rfl)) (by unfold Func.isWrapper; first | (rw [if_pos (by decide +kernel)]; kernel_rfl) | (rw [if_neg (by decide +kernel)]; exact ⟨rfl, rfl⟩))
    (fun os started H enc _ => key_lifted os started H enc)

/-- THE STATEMENT. -/
theorem fnNewArchiveKeyHoldsLastFoldedName_card : Rows.FnNewArchiveKeyHoldsLastFoldedNameCardSaid :=
  Claim7.holds_tied_plain_at .later [] Rows.fnNewArchiveKeyHoldsLastFoldedNameCard.laidKinds true Rows.fnNewArchiveKeyHoldsLastFoldedNameCard.stood.harness false key_holds (fun _ h => by cases h) (by kernel_rfl) (fun _ h => by cases h) fnNewArchiveKeyHoldsLastFoldedName_row_tie rfl ⟨rfl, rfl⟩ (by kernel_rfl) rfl
    (fun f fn hf hfn => by
      obtain rfl : f = 3 := Option.some.inj ((show Tryd.prog.funcNamed Rows.fnNewArchiveKeyHoldsLastFoldedNameRow.func = some 3 by kernel_rfl).symm.trans hf) |>.symm
      obtain rfl : fn = Tryd.f3 := (Option.some.inj (Tryd.func3.symm.trans hfn)).symm
      exact ⟨by kernel_rfl, fun j t ht => by
        rw [Tryd.params3] at ht
        have hm : t ∈ [22, 9] := by simpa using Array.mem_of_getElem? ht
        have hall : ([22, 9].all fun u => !Tryd.prog.wantsStandIn u) = true := by kernel_rfl
        exact (show Tryd.prog.wantsStandIn t = false by simpa using List.all_eq_true.1 hall t hm)⟩)
    (by kernel_rfl)
end Go.Proofs.Qxb6604498aDoor
