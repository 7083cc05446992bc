/-
  SEAT b6604306aD: the law FnIsDotAtomMatchesAutomaton, walked.
-/
import Derived.Test.Qxb6604306aDoorAtom
namespace Go.Proofs.Qxb6604306aDoor
open Go Go.RowKit Plain
set_option linter.unusedVariables false
set_option linter.unusedSimpArgs false

set_option maxHeartbeats 400000 in
theorem zzIsDotAtom_any (s : ByteArray) (w : World) (hsh : w.ShapedOpen Tryd.prog) (hs : s.size ≤ 1048576) :
    Calls Tryd.prog 7 #[.string s] w fun e w' => e = .returned (.bool ((pieces s.data.toList).all goodA)) ∧ Below w.heap.size w w' := by
  have HC : Hid (Calls Tryd.prog 13 #[.string s] w fun e w' => e = .returned (.bool ((pieces s.data.toList).all goodA)) ∧ Below w.heap.size w w') := isDotAtom_any s w hsh hs
  generalize (pieces s.data.toList).all goodA = B at HC ⊢
  clear hsh
  go_enter Tryd.func7, Tryd.ntmps7
  go_wp2_with fail
  refine HC.out.mono ?_
  rintro e w1 ⟨rfl, hb⟩
  go_wp2_with fail
  go_ret
  exact ⟨rfl, hb⟩

set_option maxHeartbeats 400000 in
theorem fnIsDotAtomMatchesAutomaton_walk (s : ByteArray) (w : World) (hs : s.size ≤ maxLen) (hsh : w.ShapedOpen Tryd.prog) :
    Calls Tryd.prog 3 #[.string s] w fun e w' => e = .returned (.bool true) ∧ Below w.heap.size w w' := by
  have cF := fits1_any s w hs
  by_cases h20 : s.size ≤ 1048576
  · rw [decide_eq_true h20] at cF
    have c1 := zzIsDotAtom_any s w hsh h20
    have c2 := fun w' => dotAtomModel_any s w' hs
    rw [dotAtom_model] at c1
    generalize da true s.data.toList = B at c1 c2
    have HF : Hid (Calls Tryd.prog 6 #[.string s] w fun e w' => e = .returned (.bool true) ∧ w' = w) := cF
    have H1 : Hid (Calls Tryd.prog 7 #[.string s] w fun e w' => e = .returned (.bool B) ∧ Below w.heap.size w w') := c1
    have H2 : Hid (∀ u, Calls Tryd.prog 8 #[.string s] u fun e w' => e = .returned (.bool B) ∧ w' = u) := c2
    clear cF c1 c2 hsh
    unfold maxLen at hs
    go_enter Tryd.func3, Tryd.ntmps3
    go_wp2_with fail
    refine HF.out.mono ?_
    rintro e w1 ⟨rfl, rfl⟩
    go_wp2_with fail
    refine H1.out.mono ?_
    rintro e w2 ⟨rfl, hb⟩
    go_wp2_with fail
    refine (H2.out _).mono ?_
    rintro e w3 ⟨rfl, rfl⟩
    go_wp2_with fail
    go_ret
    exact ⟨ret_bool (by simp), hb⟩
  · rw [decide_eq_false h20] at cF
    have HF : Hid (Calls Tryd.prog 6 #[.string s] w fun e w' => e = .returned (.bool false) ∧ w' = w) := cF
    clear cF hsh
    go_enter Tryd.func3, Tryd.ntmps3
    go_wp2_with fail
    refine HF.out.mono ?_
    rintro e w1 ⟨rfl, rfl⟩
    go_wp2_with fail
    go_ret
    exact ⟨rfl, Below.refl _ _⟩
end Go.Proofs.Qxb6604306aDoor
