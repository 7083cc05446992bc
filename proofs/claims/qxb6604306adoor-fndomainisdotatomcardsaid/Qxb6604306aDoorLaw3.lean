/-
  SEAT b6604306aD: the law FnDomainIsDotAtom, walked. The world's shape is kept by isDomain (it turns nothing old), so strings.Split's contract serves a second time.
-/
import Derived.Test.Qxb6604306aDoorLaw1
import Derived.Test.Qxb6604306aDoorLaw2
import Derived.ChangeAgain
namespace Go.Proofs.Qxb6604306aDoor
open Go Go.RowKit Plain
set_option linter.unusedVariables false
set_option linter.unusedSimpArgs false

set_option maxHeartbeats 400000 in
theorem fnDomainIsDotAtom_walk (s : ByteArray) (w : World) (hs : s.size ≤ maxLen) (hsh : w.ShapedOpen Tryd.prog) :
    Calls Tryd.prog 5 #[.string s] w fun e w' => e = .returned (.bool true) ∧ Below w.heap.size w w' := by
  have cF := fits3_any s w hs
  by_cases h20 : s.size ≤ 1048576
  · rw [decide_eq_true h20] at cF
    have c1 := zzIsDomain_any s w hsh h20
    have c2 : ∀ u, Below w.heap.size w u → Calls Tryd.prog 7 #[.string s] u fun e w' => e = .returned (.bool ((pieces s.data.toList).all goodA)) ∧ Below u.heap.size u w' := fun u hu =>
      zzIsDotAtom_any s u (hsh.keptBut (hu.frame (fun _ => False)) (fun _ h => h.elim)) h20
    have himp := dotAtom_of_domain s.data.toList
    generalize (pieces s.data.toList).all goodD = B at c1 himp
    generalize (pieces s.data.toList).all goodA = B2 at c2 himp
    have HF : Hid (Calls Tryd.prog 12 #[.string s] w fun e w' => e = .returned (.bool true) ∧ w' = w) := cF
    have H1 : Hid (Calls Tryd.prog 10 #[.string s] w fun e w' => e = .returned (.bool B) ∧ Below w.heap.size w w') := c1
    have H2 : Hid (∀ u, Below w.heap.size w u → Calls Tryd.prog 7 #[.string s] u fun e w' => e = .returned (.bool B2) ∧ Below u.heap.size u w') := c2
    have HI : Hid (B = true → B2 = true) := himp
    clear cF c1 c2 hsh himp
    unfold maxLen at hs
    cases B
    · go_enter Tryd.func5, Tryd.ntmps5
      go_wp2_with fail
      refine HF.out.mono ?_
      rintro e w1 ⟨rfl, rfl⟩
      go_wp2_with fail
      refine H1.out.mono ?_
      rintro e w2 ⟨rfl, hb⟩
      go_wp2_with fail
      go_ret
      exact ⟨rfl, hb⟩
    · obtain rfl : B2 = true := HI.out rfl
      go_enter Tryd.func5, Tryd.ntmps5
      go_wp2_with fail
      refine HF.out.mono ?_
      rintro e w1 ⟨rfl, rfl⟩
      go_wp2_with fail
      refine H1.out.mono ?_
      rintro e w2 ⟨rfl, hb⟩
      go_wp2_with fail
      refine (H2.out _ hb).mono ?_
      rintro e w3 ⟨rfl, hb3⟩
      go_wp2_with fail
      go_ret
      exact ⟨rfl, hb.trans (hb3.mono hb.size)⟩
  · rw [decide_eq_false h20] at cF
    have HF : Hid (Calls Tryd.prog 12 #[.string s] w fun e w' => e = .returned (.bool false) ∧ w' = w) := cF
    clear cF hsh
    go_enter Tryd.func5, Tryd.ntmps5
    go_wp2_with fail
    refine HF.out.mono ?_
    rintro e w1 ⟨rfl, rfl⟩
    go_wp2_with fail
    go_ret
    exact ⟨rfl, Below.refl _ _⟩
end Go.Proofs.Qxb6604306aDoor
