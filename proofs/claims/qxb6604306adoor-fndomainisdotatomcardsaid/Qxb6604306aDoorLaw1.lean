/-
  SEAT b6604306aD: the law FnIsDomainMatchesAutomaton, walked.
-/
import Derived.Test.Qxb6604306aDoorDom
namespace Go.Proofs.Qxb6604306aDoor
open Go Go.RowKit Plain
set_option linter.unusedVariables false
set_option linter.unusedSimpArgs false

set_option maxHeartbeats 400000 in
theorem zzIsDomain_any (s : ByteArray) (w : World) (hsh : w.ShapedOpen Tryd.prog) (hs : s.size ≤ 1048576) :
    Calls Tryd.prog 10 #[.string s] w fun e w' => e = .returned (.bool ((pieces s.data.toList).all goodD)) ∧ Below w.heap.size w w' := by
  have HC : Hid (Calls Tryd.prog 15 #[.string s] w fun e w' => e = .returned (.bool ((pieces s.data.toList).all goodD)) ∧ Below w.heap.size w w') := isDomain_any s w hsh hs
  generalize (pieces s.data.toList).all goodD = B at HC ⊢
  clear hsh
  go_enter Tryd.func10, Tryd.ntmps10
  go_wp2_with fail
  refine HC.out.mono ?_
  rintro e w1 ⟨rfl, hb⟩
  go_wp2_with fail
  go_ret
  exact ⟨rfl, hb⟩

set_option maxHeartbeats 400000 in
theorem fnIsDomainMatchesAutomaton_walk (s : ByteArray) (w : World) (hs : s.size ≤ maxLen) (hsh : w.ShapedOpen Tryd.prog) :
    Calls Tryd.prog 4 #[.string s] w fun e w' => e = .returned (.bool true) ∧ Below w.heap.size w w' := by
  have cF := fits2_any s w hs
  by_cases h20 : s.size ≤ 1048576
  · rw [decide_eq_true h20] at cF
    have c1 := zzIsDomain_any s w hsh h20
    have c2 := fun w' => domainModel_any s w' hs
    rw [domain_model] at c1
    generalize dm 0 46 s.data.toList = B at c1 c2
    have HF : Hid (Calls Tryd.prog 9 #[.string s] w fun e w' => e = .returned (.bool true) ∧ w' = w) := cF
    have H1 : Hid (Calls Tryd.prog 10 #[.string s] w fun e w' => e = .returned (.bool B) ∧ Below w.heap.size w w') := c1
    have H2 : Hid (∀ u, Calls Tryd.prog 11 #[.string s] u fun e w' => e = .returned (.bool B) ∧ w' = u) := c2
    clear cF c1 c2 hsh
    unfold maxLen at hs
    go_enter Tryd.func4, Tryd.ntmps4
    go_wp2_with fail
    refine HF.out.mono ?_
    rintro e w1 ⟨rfl, rfl⟩
    go_wp2_with fail
    refine H1.out.mono ?_
    rintro e w2 ⟨rfl, hb⟩
    go_wp2_with fail
    refine (H2.out _).mono ?_
    rintro e w3 ⟨rfl, rfl⟩
    go_wp2_with fail
    go_ret
    exact ⟨ret_bool (by simp), hb⟩
  · rw [decide_eq_false h20] at cF
    have HF : Hid (Calls Tryd.prog 9 #[.string s] w fun e w' => e = .returned (.bool false) ∧ w' = w) := cF
    clear cF hsh
    go_enter Tryd.func4, Tryd.ntmps4
    go_wp2_with fail
    refine HF.out.mono ?_
    rintro e w1 ⟨rfl, rfl⟩
    go_wp2_with fail
    go_ret
    exact ⟨rfl, Below.refl _ _⟩
end Go.Proofs.Qxb6604306aDoor
