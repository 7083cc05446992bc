/-
  SEAT b6604498aD: the plain laws of the archive: a map filled from the first name to the last holds, under each key, the last name that folds to it; it has one entry a class of names.
-/
import Derived.Test.Qxb6604498aDoorW4
namespace Go.Proofs.Qxb6604498aDoor
open Go Go.Maps
set_option linter.unusedVariables false
set_option linter.unusedSimpArgs false

abbrev fold (s : ByteArray) : List UInt8 := Lib.toLowerA s.data.toList
/-- the greatest i below k whose name folds to key. -/
def lastTo (N : Nat → ByteArray) (key : List UInt8) : Nat → Option Nat
  | 0 => none
  | k + 1 => if fold (N k) = key then some k else lastTo N key k

theorem lastTo_lt (N : Nat → ByteArray) (key : List UInt8) : ∀ (k i : Nat), lastTo N key k = some i → i < k ∧ fold (N i) = key
  | 0, i, h => by cases h
  | k + 1, i, h => by
    unfold lastTo at h
    split at h
    · rename_i hk
      cases h
      exact ⟨by omega, hk⟩
    · obtain ⟨h1, h2⟩ := lastTo_lt N key k i h
      exact ⟨by omega, h2⟩
theorem lastTo_ge (N : Nat → ByteArray) (key : List UInt8) : ∀ (k i : Nat), i < k → fold (N i) = key → ∃ j, lastTo N key k = some j ∧ i ≤ j
  | 0, i, h, _ => by omega
  | k + 1, i, h, hk => by
    unfold lastTo
    split
    · exact ⟨k, rfl, by omega⟩
    · rename_i hne
      by_cases e : i = k
      · subst e; exact absurd hk hne
      · exact lastTo_ge N key k i (by omega) hk

theorem arch_isMap (F : Nat) (N : Nat → ByteArray) : ∀ k, IsMap (arch F N k)
  | 0 => isMap_empty
  | k + 1 => by rw [arch_step]; exact (arch_isMap F N k).put _ _
theorem arch_tidy (F : Nat) (N : Nat → ByteArray) : ∀ k, Tidy (arch F N k)
  | 0 => tidy_empty
  | k + 1 => by rw [arch_step]; exact (arch_tidy F N k).put (k := keyLit (N k)) (show WideAt.IsKeyLit (keyLit (N k)) from trivial) _

theorem arch_has (F : Nat) (N : Nat → ByteArray) (key : List UInt8) : ∀ k, Maps.has (arch F N k) (.string key) = (lastTo N key k).isSome
  | 0 => rfl
  | k + 1 => by
    rw [arch_step]
    unfold lastTo
    by_cases h : fold (N k) = key
    · rw [if_pos h]
      have : keyLit (N k) = .string key := by unfold keyLit; rw [← h]
      rw [this, has_put_same (k := .string key) (arch_isMap F N k) (show WideAt.IsKeyLit (.string key) from trivial)]; rfl
    · rw [if_neg h, has_put_other (by unfold keyLit; intro e; injection e with e; exact h e.symm), arch_has F N key k]

def fileAt (F : Nat) : Option Nat → DataW Unit
  | none => .nil
  | some i => .lit (.int .i64 ((F + 1 + i : Nat) : Int))
theorem arch_at (F : Nat) (N : Nat → ByteArray) (key : List UInt8) : ∀ k, (arch F N k).atKey (.string key) .nil = fileAt F (lastTo N key k)
  | 0 => rfl
  | k + 1 => by
    rw [arch_step]
    unfold lastTo
    by_cases h : fold (N k) = key
    · rw [if_pos h]
      have : keyLit (N k) = .string key := by unfold keyLit; rw [← h]
      rw [this, atKey_put_same (k := .string key) (arch_isMap F N k) (show WideAt.IsKeyLit (.string key) from trivial)]; rfl
    · rw [if_neg h, atKey_put_other (by unfold keyLit; intro e; injection e with e; exact h e.symm), arch_at F N key k]

/-- is i the last of its class among the first n? -/
def isLast (N : Nat → ByteArray) (n i : Nat) : Bool := lastTo N (fold (N i)) n == some i
def cls (N : Nat → ByteArray) (n k : Nat) : Nat := (List.range k).countP (isLast N n)
theorem cls_step (N : Nat → ByteArray) (n k : Nat) : cls N n (k + 1) = cls N n k + (if isLast N n k then 1 else 0) := by
  unfold cls; rw [List.range_succ, List.countP_append]; simp [List.countP_cons]

theorem isLast_succ (N : Nat → ByteArray) (n i : Nat) (hi : i < n) : isLast N (n + 1) i = (isLast N n i && !decide (fold (N i) = fold (N n))) := by
  unfold isLast
  conv => lhs; unfold lastTo
  by_cases h : fold (N n) = fold (N i)
  · rw [if_pos h, decide_eq_true h.symm]
    have : (some n == some i) = false := by rw [beq_eq_false_iff_ne]; intro e; injection e with e; omega
    rw [this]; simp
  · rw [if_neg h, decide_eq_false (fun e => h e.symm)]; simp

theorem countP_split {α : Type} (p q : α → Bool) : ∀ l : List α, l.countP p = l.countP (fun x => p x && !q x) + l.countP (fun x => p x && q x)
  | [] => rfl
  | x :: l => by
    rw [List.countP_cons, List.countP_cons, List.countP_cons, countP_split p q l]
    cases p x <;> cases q x <;> simp <;> omega

theorem countP_one (j : Nat) : ∀ n, j < n → (List.range n).countP (fun i => some j == some i) = 1
  | 0, h => by omega
  | n + 1, h => by
    rw [List.range_succ, List.countP_append]
    by_cases e : j = n
    · subst e
      have : (List.range j).countP (fun i => some j == some i) = 0 := by
        rw [List.countP_eq_zero]
        intro i hi
        have := List.mem_range.1 hi
        simp; omega
      rw [this]; simp
    · rw [countP_one j n (by omega)]
      have : (some j == some n) = false := by rw [beq_eq_false_iff_ne]; intro x; injection x with x; exact e x
      simp [this]
      omega

theorem size_cls (F : Nat) (N : Nat → ByteArray) : ∀ n, Maps.size (arch F N n) = cls N n n
  | 0 => rfl
  | n + 1 => by
    rw [arch_step, size_put (arch_tidy F N n), cls_step]
    have hl : isLast N (n + 1) n = true := by
      unfold isLast; conv => lhs; unfold lastTo
      rw [if_pos rfl]; simp
    rw [hl, if_pos rfl]
    have hc : cls N (n + 1) n = (List.range n).countP (fun i => isLast N n i && !decide (fold (N i) = fold (N n))) := by
      unfold cls
      apply List.countP_congr
      intro i hi
      rw [isLast_succ N n i (List.mem_range.1 hi)]
    have h1 := countP_split (isLast N n) (fun i => decide (fold (N i) = fold (N n))) (List.range n)
    have h2 : (List.range n).countP (fun i => isLast N n i && decide (fold (N i) = fold (N n))) = if (lastTo N (fold (N n)) n).isSome then 1 else 0 := by
      have hcg : ∀ i ∈ List.range n, ((isLast N n i && decide (fold (N i) = fold (N n))) = true ↔ (lastTo N (fold (N n)) n == some i) = true) := by
        intro i hi
        constructor
        · intro h
          obtain ⟨ha, hb⟩ := (Bool.and_eq_true _ _ ▸ h : _ ∧ _)
          have hb' := of_decide_eq_true hb
          unfold isLast at ha
          rw [hb'] at ha
          exact ha
        · intro h
          have e := beq_iff_eq.1 h
          obtain ⟨_, hk⟩ := lastTo_lt N _ n i e
          unfold isLast
          rw [hk, h]; simp
      rw [List.countP_congr hcg]
      cases hL : lastTo N (fold (N n)) n with
      | none => simp
      | some j =>
        have hj := (lastTo_lt N _ n j hL).1
        rw [countP_one j n hj]; rfl
    have hs := size_cls F N n
    have hh : Maps.has (arch F N n) (keyLit (N n)) = (lastTo N (fold (N n)) n).isSome := arch_has F N (fold (N n)) n
    rw [hh, hs, hc]
    have hcn : cls N n n = (List.range n).countP (isLast N n) := rfl
    rw [hcn, h1, h2]
    cases (lastTo N (fold (N n)) n).isSome <;> simp
end Go.Proofs.Qxb6604498aDoor
