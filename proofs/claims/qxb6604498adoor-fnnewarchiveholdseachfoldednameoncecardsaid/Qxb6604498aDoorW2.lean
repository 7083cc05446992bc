/-
  SEAT b6604498aD: zzFolded, zzCloneStrings: a new row filled in a loop.
-/
import Derived.Test.Qxb6604498aDoorW1
import Derived.Laws.MakeOwn
import Derived.Laws.IdiomStrings
import Derived.Lib.SliceRun
namespace Go.Proofs.Qxb6604498aDoor
open Go Go.RowKit
set_option linter.unusedVariables false
set_option linter.unusedSimpArgs false

theorem info9 : (Tryd.prog.info? 9).map (fun i => (i.zero, i.size, i.bytes)) = some (some (.string ByteArray.empty), 1, 16) := by kernel_rfl
theorem info5 : (Tryd.prog.info? 5).map (fun i => (i.zero, i.size, i.bytes)) = some (some (.int .u8 0), 1, 1) := by kernel_rfl

theorem make9 (n : Nat) (hn : n ≤ 1048576) (u : World) : (Instr.makeSlice 22 (.int .i64 (n : Int)) (.int .i64 (n : Int))).run Tryd.prog u = .ok (.slice (some ⟨u.heap.size, 0, none⟩) n n) (u.alloc (.cells (madeCells #[.string ByteArray.empty] n) 9)) := by
  obtain ⟨i, hi, h⟩ := Option.map_eq_some_iff.1 info9
  obtain ⟨hz, hs, hb⟩ : i.zero = some (.string ByteArray.empty) ∧ i.size = 1 ∧ i.bytes = 16 := by simpa using h
  have := run_make (P := Tryd.prog) u 22 9 i (.string ByteArray.empty) Tryd.underlying22 hi hz .i64 .i64 n n (by omega) (Int.le_refl _) (by rw [hb]; omega) (by omega)
  simpa [hs, Value.cells] using this
theorem make5 (n : Nat) (hn : n ≤ 1048576) (u : World) : (Instr.makeSlice 37 (.int .i64 (n : Int)) (.int .i64 (n : Int))).run Tryd.prog u = .ok (.slice (some ⟨u.heap.size, 0, none⟩) n n) (u.alloc (.cells (madeCells #[.int .u8 0] n) 5)) := by
  obtain ⟨i, hi, h⟩ := Option.map_eq_some_iff.1 info5
  obtain ⟨hz, hs, hb⟩ : i.zero = some (.int .u8 0) ∧ i.size = 1 ∧ i.bytes = 1 := by simpa using h
  have := run_make (P := Tryd.prog) u 37 5 i (.int .u8 0) Tryd.underlying37 hi hz .i64 .i64 n n (by omega) (Int.le_refl _) (by rw [hb]; omega) (by omega)
  simpa [hs, Value.cells] using this

/-- a row of n cells whose first k are filled. -/
def fillTo (z : Value) (f : Nat → Value) (n k : Nat) : Array Value := ((List.range n).map fun i => if i < k then f i else z).toArray
theorem fill_size (z : Value) (f : Nat → Value) (n k : Nat) : (fillTo z f n k).size = n := by simp [fillTo]
theorem fill_zero (z : Value) (f : Nat → Value) (n : Nat) : madeCells #[z] n = fillTo z f n 0 := by
  apply Array.ext
  · simp [fillTo, madeCells]
  · intro i h1 h2
    simp [fillTo, madeCells, Nat.mod_one]
theorem fill_get (z : Value) (f : Nat → Value) (n k i : Nat) (h : i < n) : (fillTo z f n k)[i]? = some (if i < k then f i else z) := by
  simp [fillTo, h]
theorem fill_set (z : Value) (f : Nat → Value) (n k : Nat) (h : k < n) : (fillTo z f n k).setIfInBounds k (f k) = fillTo z f n (k + 1) := by
  apply Array.ext_getElem?
  intro j
  rw [Array.getElem?_setIfInBounds]
  by_cases hj : j < n
  · rw [fill_get z f n (k + 1) j hj]
    by_cases e : k = j
    · subst e
      rw [if_pos rfl, if_pos (by rw [fill_size]; exact h), if_pos (by omega)]
    · rw [if_neg e, fill_get z f n k j hj]
      by_cases hl : j < k
      · rw [if_pos hl, if_pos (by omega)]
      · rw [if_neg hl, if_neg (by omega)]
  · have h1 : (fillTo z f n (k + 1))[j]? = none := Array.getElem?_eq_none (by rw [fill_size]; omega)
    rw [h1, if_neg (by omega)]
    exact Array.getElem?_eq_none (by rw [fill_size]; omega)

theorem get!_at (s : ByteArray) (j : Nat) (h : j < s.size) : s.get! j = s[j] := by
  have : j < s.data.size := h
  show s.data[j]! = s.data[j]
  rw [getElem!_pos s.data j this]

def lowCell (s : ByteArray) (i : Nat) : Value := .int .u8 ((Lib.lowerB (s.get! i)).toNat : Int)

theorem folded_back (s : ByteArray) (w : World) :
    (convert 37 9 (.slice (some ⟨w.heap.size, 0, none⟩) s.size s.size)).run Tryd.prog (w.alloc (.cells (fillTo (.int .u8 0) (lowCell s) s.size s.size) 5)) = .ok (.string ⟨(Lib.toLowerA s.data.toList).toArray⟩) (w.alloc (.cells (fillTo (.int .u8 0) (lowCell s) s.size s.size) 5)) := by
  have hl : (Lib.toLowerA s.data.toList).length = s.size := by simp [Lib.toLowerA]
  have := run_convert_bytes_back (P := Tryd.prog) (w.alloc (.cells (fillTo (.int .u8 0) (lowCell s) s.size s.size) 5)) 37 9 5 ⟨w.heap.size, 0, none⟩ s.size (Lib.toLowerA s.data.toList) Tryd.underlying37 Tryd.underlying5 Tryd.underlying9 (by
    intro j hj
    have hj' : j < s.size := by omega
    have hp : (⟨w.heap.size, 0, none⟩ : Addr).add j = ⟨w.heap.size, j, none⟩ := by unfold Addr.add; split <;> simp_all
    rw [hp]
    have hc := fill_get (.int .u8 0) (lowCell s) s.size s.size j hj'
    rw [if_pos hj'] at hc
    have he : (w.alloc (.cells (fillTo (.int .u8 0) (lowCell s) s.size s.size) 5)).cell? ⟨w.heap.size, j, none⟩ = (fillTo (.int .u8 0) (lowCell s) s.size s.size)[j]? := by simp
    rw [he, hc]
    unfold lowCell
    rw [get!_at s j hj']
    simp [Lib.toLowerA]
    rfl)
  rw [hl] at this
  exact this

set_option maxHeartbeats 1000000 in
theorem folded_any (s : ByteArray) (w : World) (hs : s.size ≤ 1048576) :
    Calls Tryd.prog 11 #[.string s] w fun e w' => e = .returned (.string ⟨(Lib.toLowerA s.data.toList).toArray⟩) ∧ Below w.heap.size w w' := by
  have hmk := make5 s.size hs
  have hcv := folded_back s w
  go_enter Tryd.func11, Tryd.ntmps11
  go_wp2
  go_loopw [4] (fun i wx => ∃ k : Nat, k ≤ s.size ∧ i = .int .i64 k ∧ wx = w.alloc (.cells (fillTo (.int .u8 0) (lowCell s) s.size k) 5)) (fun i _ => s.size - (intOf i).toNat)
  case atStart => exact ⟨0, Nat.zero_le _, rfl, by rw [fill_zero]⟩
  case round =>
    obtain ⟨k, hk, rfl, rfl⟩ := hrel
    clear hmk
    by_cases hlt : k < s.size
    · have hc := fill_get (.int .u8 0) (lowCell s) s.size k k hlt
      clear hcv
      go_wp2_with (go_at_call 14; refine (lower_any _ _).mono ?_; rintro e w1 ⟨rfl, rfl⟩)
      go_roundw
      case rel =>
        refine ⟨k + 1, by omega, by go_num, ?_⟩
        rw [← fill_set _ _ _ k hlt]
        unfold lowCell
        rw [get!_at s k hlt]
      case measure => simp [intOf]; omega
    · obtain rfl : k = s.size := by omega
      go_wp2
      go_ret
      exact ⟨rfl, (Below.refl _ w).alloc (Nat.le_refl _) _⟩

/-- the names as a function of their place. -/
def nameCell (N : Nat → ByteArray) (i : Nat) : Value := .string (N i)

set_option maxRecDepth 100000 in
set_option maxHeartbeats 1000000 in
theorem clone_any (b off n cap : Nat) (N : Nat → ByteArray) (w : World) (hn : n ≤ 1048576) (hb : b < w.heap.size) (hc : ∀ i, i < n → w.cell? ⟨b, off + i, none⟩ = some (.string (N i))) :
    Calls Tryd.prog 7 #[.slice (some ⟨b, off, none⟩) n cap] w fun e w' => e = .returned (.slice (some ⟨w.heap.size, 0, none⟩) n n) ∧ w' = w.alloc (.cells (fillTo (.string ByteArray.empty) (nameCell N) n n) 9) := by
  have hmk := make9 n hn
  have HC : Hid (∀ i, i < n → w.cell? ⟨b, off + i, none⟩ = some (.string (N i))) := hc
  clear hc
  have heq := fun u => Lib.run_eql_slice_nil (P := Tryd.prog) u 22 9 (some ⟨b, off, none⟩) n cap 0 0 Tryd.underlying22
  go_enter Tryd.func7, Tryd.ntmps7
  go_wp2
  go_loopw [4] (fun i wx => ∃ k : Nat, k ≤ n ∧ i = .int .i64 k ∧ wx = w.alloc (.cells (fillTo (.string ByteArray.empty) (nameCell N) n k) 9)) (fun i _ => n - (intOf i).toNat)
  case atStart => exact ⟨0, Nat.zero_le _, rfl, by rw [fill_zero]⟩
  case round =>
    obtain ⟨k, hk, rfl, rfl⟩ := hrel
    clear hmk
    by_cases hlt : k < n
    · have hf := fill_get (.string ByteArray.empty) (nameCell N) n k k hlt
      have hcx := HC.out k hlt
      go_wp2
      go_roundw
      case rel =>
        refine ⟨k + 1, by omega, by go_num, ?_⟩
        rw [← fill_set _ _ _ k hlt]
        rfl
      case measure => simp [intOf]; omega
    · obtain rfl : k = n := by omega
      go_wp2
      go_ret
      exact ⟨rfl, rfl⟩

set_option maxRecDepth 100000 in
set_option maxHeartbeats 1000000 in
theorem clone_nil (w : World) :
    Calls Tryd.prog 7 #[.slice none 0 0] w fun e w' => e = .returned (.slice none 0 0) ∧ w' = w := by
  have heq := fun u => Lib.run_eql_slice_nil (P := Tryd.prog) u 22 9 none 0 0 0 0 Tryd.underlying22
  go_enter Tryd.func7, Tryd.ntmps7
  go_wp2
  go_ret
  exact ⟨rfl, rfl⟩
end Go.Proofs.Qxb6604498aDoor
