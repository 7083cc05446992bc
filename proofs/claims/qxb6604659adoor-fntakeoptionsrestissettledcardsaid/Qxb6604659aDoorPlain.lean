/-
  SEAT b6604659aD: the plain laws on texts: every underscore read as a hyphen ('canon'), the two exchanged ('swap').
-/
import Derived.Lib.Replace
import Derived.Lib.SplitLaws
namespace Go.Proofs.Qxb6604659aDoor
open Go
set_option linter.unusedVariables false
set_option linter.unusedSimpArgs false

def canonC (c : UInt8) : UInt8 := if c = 95 then 45 else c
def swapC (c : UInt8) : UInt8 := if c = 95 then 45 else if c = 45 then 95 else c
def canon (l : List UInt8) : List UInt8 := l.map canonC
def swap (l : List UInt8) : List UInt8 := l.map swapC
theorem canonC_swapC (c : UInt8) : canonC (swapC c) = canonC c := by
  unfold swapC
  by_cases h : c = 95
  · rw [if_pos h, h]; rfl
  · rw [if_neg h]
    by_cases h2 : c = 45
    · rw [if_pos h2, h2]; rfl
    · rw [if_neg h2]
theorem canon_swap (l : List UInt8) : canon (swap l) = canon l := by
  unfold canon swap
  rw [List.map_map]
  exact List.map_congr_left fun c _ => canonC_swapC c

theorem canon_none {l : List UInt8} (h : Lib.index l [95] = -1) : canon l = l := by
  rcases Lib.index_spec l [95] with ⟨_, hno⟩ | ⟨i, hi, _⟩
  · unfold canon
    have : ∀ c ∈ l, canonC c = c := by
      intro c hc
      obtain ⟨j, hj, e⟩ := List.mem_iff_getElem.1 hc
      have := hno j (by omega)
      unfold Lib.occAt at this
      rw [List.drop_eq_getElem_cons hj, e] at this
      unfold canonC
      rw [if_neg]
      intro h95
      rw [h95] at this
      simp [List.isPrefixOf] at this
    rw [List.map_congr_left this, List.map_id']
  · omega

theorem replaceK_canon : ∀ l : List UInt8, Lib.replaceK [95] [45] (Lib.count l [95]) l = canon l
  | [] => by
    have h : Lib.count [] [95] = 0 := Lib.count_miss rfl
    rw [h]; rfl
  | b :: l => by
    have ih := replaceK_canon l
    by_cases hb : b = 95
    · subst hb
      rw [Lib.count_cons_eq, Nat.add_comm]
      have hi : Lib.index (95 :: l) [95] = (0 : Nat) := by unfold Lib.index; rw [if_pos (by simp [List.isPrefixOf])]; rfl
      rw [Lib.replaceK_hit _ _ _ _ 0 hi]
      show [] ++ [45] ++ Lib.replaceK [95] [45] (Lib.count l [95]) l = canon (95 :: l)
      rw [ih]; rfl
    · rw [Lib.count_cons_ne b 95 l hb]
      have hcb : canonC b = b := by unfold canonC; rw [if_neg hb]
      have hi : Lib.index (b :: l) [95] = if Lib.index l [95] == -1 then -1 else Lib.index l [95] + 1 := by
        conv => lhs; unfold Lib.index
        rw [if_neg (by simp [List.isPrefixOf]; exact fun h => hb h.symm)]
      rcases Lib.index_spec l [95] with ⟨h1, _⟩ | ⟨i, h1, _, _, _⟩
      · have hc : Lib.count l [95] = 0 := Lib.count_miss h1
        rw [hc]
        show b :: l = canon (b :: l)
        show b :: l = canonC b :: canon l
        rw [hcb, canon_none h1]
      · have hc : Lib.count l [95] = Lib.count (l.drop (i + 1)) [95] + 1 := by
          rw [Lib.count_hit (by simp) h1, Nat.add_comm]; rfl
        have hne : ¬ ((i : Int) == -1) = true := fun e => by have := beq_iff_eq.1 e; omega
        rw [h1, if_neg hne] at hi
        rw [hc] at ih ⊢
        rw [Lib.replaceK_hit _ _ _ _ i h1] at ih
        rw [Lib.replaceK_hit _ _ _ _ (i + 1) (by rw [hi]; omega)]
        show b :: (l.take i ++ [45] ++ Lib.replaceK [95] [45] (Lib.count (l.drop (i + 1)) [95]) (l.drop (i + 1))) = canonC b :: canon l
        rw [hcb]
        exact congrArg (b :: ·) ih

theorem replaceAll_canon (l : List UInt8) : Lib.replaceAll l [95] [45] = canon l := by
  unfold Lib.replaceAll Lib.replace Lib.replaceNum
  rw [if_neg (by decide), if_pos (Or.inl (by decide))]
  exact replaceK_canon l
end Go.Proofs.Qxb6604659aDoor
