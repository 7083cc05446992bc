/-
  SEAT b6604306aD: strings.IndexRune, ContainsRune over the text of atext's signs, AT EVERY RUNE: an ASCII rune by the shelf's contract, U+FFFD by the range's loop, a surrogate by ValidRune, every other by the search for the last byte, which is none of ASCII's.
-/
import Derived.Test.Qxb6604306aDoorShelfR
import Derived.Test.Qxb6604306aDoorW1
import Derived.Laws.Runes
import Derived.Lib.OthersKept
import Derived.Deep.LoopGhost
import Derived.Deep.RegionWith
import Derived.Deep.QuietTactic
import Derived.BigQuiet
import Derived.WalkMore
namespace Go.Proofs.Qxb6604306aDoor
open Go Go.RowKit Plain
set_option linter.unusedVariables false
set_option linter.unusedSimpArgs false

set_option maxRecDepth 1000000 in
set_option maxHeartbeats 1000000 in
theorem indexRune_surrogate (S : ByteArray) (r : Nat) (w : World) (h128 : (128 : Int) ≤ r) (hmax : (r : Int) ≤ 1114111) (hne : ((r : Int) == 65533) = false) (hv : Lib.validRune (r : Int) = false) :
    Calls Tryd.prog 29 #[.string S, .int .i32 (r : Int)] w fun e w' => e = .returned (.int .i64 (-1)) ∧ Below w.heap.size w w' := by
  have HV : Hid (Lib.validRune (r : Int) = false) := hv
  clear hv
  go_enter Tryd.func29, Tryd.ntmps29
  go_wp2_with (go_at_call 35; refine (Tryd.utf8_ValidRune _ _).mono ?_; rw [HV.out]; rintro e w' ⟨rfl, rfl⟩)
  go_ret
  exact ⟨rfl, Below.refl _ _⟩

theorem encode_forms (r : Nat) (hv : Lib.validRune (r : Int) = true) (h128 : (128 : Int) ≤ r) :
    (∃ a b, Utf8.encode (r : Int) = ⟨#[a, b]⟩ ∧ 128 ≤ b.toNat) ∨ (∃ a b c, Utf8.encode (r : Int) = ⟨#[a, b, c]⟩ ∧ 128 ≤ c.toNat) ∨ (∃ a b c d, Utf8.encode (r : Int) = ⟨#[a, b, c, d]⟩ ∧ 128 ≤ d.toNat) := by
  have hv' : Utf8.valid (r : Int) = true := by
    unfold Lib.validRune at hv
    unfold Utf8.valid
    simp at hv ⊢
    omega
  have hc : ¬ r < 128 := by omega
  unfold Utf8.encode
  simp only [hv', if_true, Int.toNat_natCast, hc, if_false]
  split
  · exact .inl ⟨_, _, rfl, by simp; omega⟩
  · split
    · exact .inr (.inl ⟨_, _, _, rfl, by simp; omega⟩)
    · exact .inr (.inr ⟨_, _, _, _, rfl, by simp; omega⟩)

theorem index_high (S : ByteArray) (a n : Nat) (b : UInt8) (hlow : ∀ x ∈ S.data.toList, x.toNat < 128) (hb : 128 ≤ b.toNat) : Lib.indexByte (List.take n (List.drop a S.data.toList)) b = -1 := by
  have : ∀ l : List UInt8, (∀ x ∈ l, x.toNat < 128) → Lib.indexByte l b = -1 := by
    intro l
    induction l with
    | nil => intro _; rfl
    | cons c l ih =>
      intro h
      have h1 := h c (by simp)
      have h2 := ih fun x hx => h x (by simp [hx])
      unfold Lib.indexByte
      rw [if_neg (by intro e; have := beq_iff_eq.1 e; subst this; omega), h2]
      rfl
  exact this _ fun x hx => hlow x (List.mem_of_mem_drop (List.mem_of_mem_take hx))
end Go.Proofs.Qxb6604306aDoor
