/-
  SEAT b6604498aD: the bounds laid by program (zzBytes): they answer some bool and turn nothing; zzCloneStrings at a row of no elements.
-/
import Derived.Test.Qxb6604498aDoorW2
namespace Go.Proofs.Qxb6604498aDoor
open Go Go.RowKit
set_option linter.unusedVariables false
set_option linter.unusedSimpArgs false

/-- it answers some bool. -/
def SomeBool (e : Ending) : Prop := ∃ B, e = .returned (.bool B)

set_option maxRecDepth 100000 in
set_option maxHeartbeats 1000000 in
theorem clone_empty (A : Addr) (cap : Nat) (N : Nat → ByteArray) (w : World) :
    Calls Tryd.prog 7 #[.slice (some A) 0 cap] w fun e w' => e = .returned (.slice (some ⟨w.heap.size, 0, none⟩) 0 0) ∧ w' = w.alloc (.cells (fillTo (.string ByteArray.empty) (nameCell N) 0 0) 9) := by
  have hmk := fun u => (show (Instr.makeSlice 22 (.int .i64 0) (.int .i64 0)).run Tryd.prog u = .ok (.slice (some ⟨u.heap.size, 0, none⟩) 0 0) (u.alloc (.cells (madeCells #[.string ByteArray.empty] 0) 9)) from make9 0 (by omega) u)
  have heq := fun u => Lib.run_eql_slice_nil (P := Tryd.prog) u 22 9 (some A) 0 cap 0 0 Tryd.underlying22
  have hz : madeCells #[.string ByteArray.empty] 0 = fillTo (.string ByteArray.empty) (nameCell N) 0 0 := fill_zero _ _ _
  go_enter Tryd.func7, Tryd.ntmps7
  go_wp2
  go_loopw [4] (fun i wx => i = .int .i64 0 ∧ wx = w.alloc (.cells (fillTo (.string ByteArray.empty) (nameCell N) 0 0) 9)) (fun i _ => 0)
  case atStart => exact ⟨rfl, by simp only [hz]⟩
  case round =>
    obtain ⟨rfl, rfl⟩ := hrel
    go_wp2
    go_ret
    exact ⟨rfl, rfl⟩

set_option maxHeartbeats 1000000 in
theorem bytesKey_zero (a : Option Addr) (cap : Nat) (key : ByteArray) (w : World) (hk : key.size ≤ maxLen) :
    Calls Tryd.prog 5 #[.slice a 0 cap, .string key] w fun e w' => SomeBool e ∧ w' = w := by
  unfold maxLen at hk
  go_enter Tryd.func5, Tryd.ntmps5
  go_wp2
  go_loop [5, 6] (fun z i => z = .int .i64 0 ∧ i = .int .i64 0) (fun _ _ => 0)
  case atStart => exact ⟨rfl, rfl⟩
  case round =>
    obtain ⟨rfl, rfl⟩ := hrel
    go_wp2
    all_goals
      go_ret
      exact ⟨⟨_, rfl⟩, rfl⟩

set_option maxHeartbeats 1000000 in
theorem bytesKey_any (b off n cap : Nat) (N : Nat → ByteArray) (key : ByteArray) (w : World) (hk : key.size ≤ maxLen) (hn : n ≤ maxLen) (hN : ∀ i, (N i).size ≤ maxLen) (hc : ∀ i, i < n → w.cell? ⟨b, off + i, none⟩ = some (.string (N i))) :
    Calls Tryd.prog 5 #[.slice (some ⟨b, off, none⟩) n cap, .string key] w fun e w' => SomeBool e ∧ w' = w := by
  unfold maxLen at hk hn
  have HC : Hid (∀ i, i < n → w.cell? ⟨b, off + i, none⟩ = some (.string (N i))) := hc
  have HN : Hid (∀ i, (N i).size ≤ maxLen) := hN
  clear hc hN
  by_cases h20 : n ≤ 1048576
  · go_enter Tryd.func5, Tryd.ntmps5
    go_wp2
    go_loop [5, 6] (fun z i => ∃ (k : Nat) (t : Int), k ≤ n ∧ 0 ≤ t ∧ t ≤ 1048576 ∧ z = .int .i64 t ∧ i = .int .i64 k) (fun _ i => n - (intOf i).toNat)
    case atStart => exact ⟨0, n, Nat.zero_le _, by omega, by omega, rfl, rfl⟩
    case round =>
      obtain ⟨k, t, hk2, ht0, ht1, rfl, rfl⟩ := hrel
      by_cases hlt : k < n
      · have hcx := HC.out k hlt
        have hsz := HN.out k
        unfold maxLen at hsz
        go_wp2
        all_goals first
          | (go_ret; exact ⟨⟨_, rfl⟩, rfl⟩)
          | (go_round
             case rel => exact ⟨k + 1, t + (N k).size, by omega, by omega, by omega, rfl, by go_num⟩
             case measure => simp [intOf]; omega)
      · go_wp2
        all_goals
          go_ret
          exact ⟨⟨_, rfl⟩, rfl⟩
  · go_enter Tryd.func5, Tryd.ntmps5
    go_wp2
    go_ret
    exact ⟨⟨_, rfl⟩, rfl⟩

set_option maxHeartbeats 1000000 in
theorem bytesOnce_zero (a : Option Addr) (cap : Nat) (w : World) :
    Calls Tryd.prog 10 #[.slice a 0 cap] w fun e w' => SomeBool e ∧ w' = w := by
  go_enter Tryd.func10, Tryd.ntmps10
  go_wp2
  go_loop [3, 4] (fun z i => z = .int .i64 0 ∧ i = .int .i64 0) (fun _ _ => 0)
  case atStart => exact ⟨rfl, rfl⟩
  case round =>
    obtain ⟨rfl, rfl⟩ := hrel
    go_wp2
    all_goals
      go_ret
      exact ⟨⟨_, rfl⟩, rfl⟩

set_option maxHeartbeats 1000000 in
theorem bytesOnce_any (b off n cap : Nat) (N : Nat → ByteArray) (w : World) (hn : n ≤ maxLen) (hN : ∀ i, (N i).size ≤ maxLen) (hc : ∀ i, i < n → w.cell? ⟨b, off + i, none⟩ = some (.string (N i))) :
    Calls Tryd.prog 10 #[.slice (some ⟨b, off, none⟩) n cap] w fun e w' => SomeBool e ∧ w' = w := by
  unfold maxLen at hn
  have HC : Hid (∀ i, i < n → w.cell? ⟨b, off + i, none⟩ = some (.string (N i))) := hc
  have HN : Hid (∀ i, (N i).size ≤ maxLen) := hN
  clear hc hN
  by_cases h20 : n ≤ 1048576
  · go_enter Tryd.func10, Tryd.ntmps10
    go_wp2
    go_loop [3, 4] (fun z i => ∃ (k : Nat) (t : Int), k ≤ n ∧ 0 ≤ t ∧ t ≤ 1048576 ∧ z = .int .i64 t ∧ i = .int .i64 k) (fun _ i => n - (intOf i).toNat)
    case atStart => exact ⟨0, n, Nat.zero_le _, by omega, by omega, rfl, rfl⟩
    case round =>
      obtain ⟨k, t, hk2, ht0, ht1, rfl, rfl⟩ := hrel
      by_cases hlt : k < n
      · have hcx := HC.out k hlt
        have hsz := HN.out k
        unfold maxLen at hsz
        go_wp2
        all_goals first
          | (go_ret; exact ⟨⟨_, rfl⟩, rfl⟩)
          | (go_round
             case rel => exact ⟨k + 1, t + (N k).size, by omega, by omega, by omega, rfl, by go_num⟩
             case measure => simp [intOf]; omega)
      · go_wp2
        all_goals
          go_ret
          exact ⟨⟨_, rfl⟩, rfl⟩
  · go_enter Tryd.func10, Tryd.ntmps10
    go_wp2
    go_ret
    exact ⟨⟨_, rfl⟩, rfl⟩
end Go.Proofs.Qxb6604498aDoor
