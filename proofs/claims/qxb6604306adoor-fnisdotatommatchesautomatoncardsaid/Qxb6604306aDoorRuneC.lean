/-
  SEAT b6604306aD: strings.IndexRune at U+FFFD over an ASCII text: the range's loop finds none.
-/
import Derived.Test.Qxb6604306aDoorRuneA
import Derived.Test.Qxb6604306aDoorIdx
import Derived.Lib.OthersKept
import Derived.Lib.TrimU
import Derived.Deep.LoopGhost
namespace Go.Proofs.Qxb6604306aDoor
open Go Go.RowKit Plain
set_option linter.unusedVariables false
set_option linter.unusedSimpArgs false

set_option maxRecDepth 1000000 in
set_option maxHeartbeats 2000000 in
theorem indexRune_error (S : ByteArray) (hS2 : (S.size : Int) ≤ 100) (hlow : ∀ x ∈ S.data.toList, x.toNat < 128) (w : World) :
    Calls Tryd.prog 29 #[.string S, .int .i32 65533] w fun e w' => e = .returned (.int .i64 (-1)) ∧ Below w.heap.size w w' := by
  go_enter Tryd.func29, Tryd.ntmps29
  go_wp2
  go_loopg [] S.size (fun gf wx => ∃ pos : Nat, wx.heap[w.heap.size]? = some (.stringIter S pos) ∧ Below w.heap.size w wx ∧ S.size ≤ pos + gf)
  case atStart => exact ⟨0, World.iter_heap w S 0, (Below.refl _ w).alloc (Nat.le_refl _) _, by omega⟩
  case round =>
    obtain ⟨pos, hit, hbw, hfu⟩ := hrel
    by_cases hps : pos < S.size
    · obtain ⟨g', rfl⟩ : ∃ g', gk = g' + 1 := ⟨gk - 1, by omega⟩
      have hnx : ∀ ty, (Instr.next (.pointer (some ⟨w.heap.size, 0, none⟩)) true ty).run Tryd.prog wr = _ := fun ty => Lib.run_next_any_at wr w.heap.size S pos ty hit hps
      have hlw : (S.get! pos).toNat < 128 := hlow _ (List.mem_of_getElem? (get!_data S pos hps))
      rw [decode_low S pos hlw] at hnx
      generalize (S.get! pos).toNat = R at hnx hlw
      have hR : ((R : Int) == 65533) = false := by rw [beq_eq_false_iff_ne]; omega
      have hit2 := Lib.iterAt_heap wr w.heap.size S pos (pos + 1) hit
      have hbw2 := Lib.below_iterAt hbw (k := w.heap.size) (Nat.le_refl _) S (pos + 1)
      simp only at hnx
      obtain ⟨W, hWd⟩ : ∃ W, wr.iterAt w.heap.size S (pos + 1) = W := ⟨_, rfl⟩
      rw [hWd] at hnx hit2 hbw2
      clear hlow
      go_wp2
      go_roundg g'
      case measure => omega
      case rel => exact ⟨pos + 1, hit2, hbw2, by omega⟩
    · have hnx : ∀ ty, (Instr.next (.pointer (some ⟨w.heap.size, 0, none⟩)) true ty).run Tryd.prog wr = _ := fun ty => Lib.run_next_end_at wr w.heap.size S pos ty hit hps
      clear hlow
      go_wp2
      go_ret
      exact ⟨rfl, hbw⟩
end Go.Proofs.Qxb6604306aDoor
