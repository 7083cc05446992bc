/-
  strings.IndexFunc finds nothing just where no byte offends ('idx_neg'): plain, no Go run in this text.
-/
import Derived.Lib.DecodeN
import Derived.Shelf.GgClosure.StringsIndexFunc
namespace Go.Proofs.Qxb6604306aDoor.Plain
open Go

theorem decode_low (s : ByteArray) (i : Nat) (h : (s.get! i).toNat < 128) : Utf8.decode s i = ((s.get! i).toNat, 1) := by
  rw [Lib.decode_at]; unfold Lib.decodeN; rw [if_pos h]
theorem decode_high (s : ByteArray) (i : Nat) (h : ¬ (s.get! i).toNat < 128) : 128 ≤ (Utf8.decode s i).1 := by
  rw [Lib.decode_at]; unfold Lib.decodeN; rw [if_neg h]
  repeat' split
  all_goals first | (simp only; omega) | (simp; done)

theorem idxFrom (p : Nat → Bool) (hp : ∀ x, 128 ≤ x → p x = true) (s : ByteArray) : ∀ (f pos : Nat), s.size ≤ pos + f →
    (Lib.idxFuncFrom p true s f pos = -1 ↔ ∀ j, pos ≤ j → j < s.size → p (s.get! j).toNat = false)
  | 0, pos, hf => by
    simp only [Lib.idxFuncFrom, true_iff]
    intro j h1 h2; omega
  | f + 1, pos, hf => by
    unfold Lib.idxFuncFrom
    by_cases hps : pos < s.size
    · rw [if_pos hps]
      by_cases hlow : (s.get! pos).toNat < 128
      · rw [decode_low s pos hlow]
        by_cases hpx : p (s.get! pos).toNat = true
        · rw [if_pos hpx]
          constructor
          · intro h; omega
          · intro h; have := h pos (Nat.le_refl _) hps; rw [hpx] at this; cases this
        · rw [if_neg hpx]
          show Lib.idxFuncFrom p true s f (pos + 1) = -1 ↔ _
          rw [idxFrom p hp s f (pos + 1) (by omega)]
          constructor
          · intro h j h1 h2
            by_cases e : j = pos
            · subst e; simpa using hpx
            · exact h j (by omega) h2
          · intro h j h1 h2; exact h j (by omega) h2
      · have hh := decode_high s pos hlow
        rw [if_pos (hp _ hh)]
        constructor
        · intro h; omega
        · intro h; have := h pos (Nat.le_refl _) hps; rw [hp _ (by omega)] at this; cases this
    · rw [if_neg hps]
      simp only [true_iff]
      intro j h1 h2; omega

theorem get!_data (s : ByteArray) (j : Nat) (h : j < s.size) : s.data.toList[j]? = some (s.get! j) := by
  have : j < s.data.size := h
  rw [Array.getElem?_toList, Array.getElem?_eq_getElem this]
  show some _ = some (s.data[j]!)
  rw [getElem!_pos s.data j this]

theorem idx_neg (p : Nat → Bool) (hp : ∀ x, 128 ≤ x → p x = true) (s : ByteArray) : decide (0 ≤ Lib.idxFunc p true s) = !(s.data.toList.all fun b => !p b.toNat) := by
  have hi := idxFrom p hp s s.size 0 (by omega)
  have hr := Lib.idxFunc_range p true s
  unfold Lib.idxFunc at hr ⊢
  have key : (s.data.toList.all fun b => !p b.toNat) = true ↔ ∀ j, 0 ≤ j → j < s.size → p (s.get! j).toNat = false := by
    rw [List.all_eq_true]
    constructor
    · intro h j _ hj
      have := h _ (List.mem_of_getElem? (get!_data s j hj))
      simpa using this
    · intro h b hb
      obtain ⟨j, hj, e⟩ := List.mem_iff_getElem.1 hb
      have hj' : j < s.size := by simpa using hj
      have e2 := get!_data s j hj'
      rw [List.getElem?_eq_getElem hj, e] at e2
      rw [Option.some.inj e2]
      simpa using h j (Nat.zero_le _) hj'
  cases hall : (s.data.toList.all fun b => !p b.toNat) with
  | true =>
    have := hi.2 (key.1 hall)
    rw [this]; decide
  | false =>
    have : ¬ Lib.idxFuncFrom p true s s.size 0 = -1 := fun h => by
      have := key.2 (hi.1 h); rw [hall] at this; cases this
    rcases hr with h | h
    · exact absurd h this
    · simpa using h.1

end Go.Proofs.Qxb6604306aDoor.Plain
