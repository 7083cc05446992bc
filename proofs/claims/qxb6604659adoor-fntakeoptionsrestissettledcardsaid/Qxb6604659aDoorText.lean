/-
  SEAT b6604659aD: swapDash; (*Node).Key.
-/
import Derived.Test.Qxb6604659aDoorForest
import Derived.Test.Qxb6604659aDoorPlain
import Derived.Test.Qxb6604659aDoorShelf
import Derived.Laws.MakeOwn
import Derived.Laws.IdiomStrings
import Derived.Lib.IndexBytes
import Derived.ChangeAgain
namespace Go.Proofs.Qxb6604659aDoor
open Go Go.RowKit
set_option linter.unusedVariables false
set_option linter.unusedSimpArgs false

theorem shaped_below {w w' : World} (h : w.ShapedOpen Tryd.prog) (hb : Below w.heap.size w w') : w'.ShapedOpen Tryd.prog :=
  h.keptBut (hb.frame (fun _ => False)) (fun _ h => h.elim)

theorem info5 : (Tryd.prog.info? 5).map (fun i => (i.zero, i.size, i.bytes)) = some (some (.int .u8 0), 1, 1) := by kernel_rfl
theorem make5 (n : Nat) (hn : n ≤ 1048576) (u : World) : (Instr.makeSlice 59 (.int .i64 (n : Int)) (.int .i64 (n : Int))).run Tryd.prog u = .ok (.slice (some ⟨u.heap.size, 0, none⟩) n n) (u.alloc (.cells (madeCells #[.int .u8 0] n) 5)) := by
  obtain ⟨i, hi, h⟩ := Option.map_eq_some_iff.1 info5
  obtain ⟨hz, hs, hb⟩ : i.zero = some (.int .u8 0) ∧ i.size = 1 ∧ i.bytes = 1 := by simpa using h
  have := run_make (P := Tryd.prog) u 59 5 i (.int .u8 0) Tryd.underlying59 hi hz .i64 .i64 n n (by omega) (Int.le_refl _) (by rw [hb]; omega) (by omega)
  simpa [hs, Value.cells] using this

/-- a row of n cells whose first k are filled. -/
def fillTo (z : Value) (f : Nat → Value) (n k : Nat) : Array Value := ((List.range n).map fun i => if i < k then f i else z).toArray
theorem fill_size (z : Value) (f : Nat → Value) (n k : Nat) : (fillTo z f n k).size = n := by simp [fillTo]
theorem fill_zero (z : Value) (f : Nat → Value) (n : Nat) : madeCells #[z] n = fillTo z f n 0 := by
  apply Array.ext
  · simp [fillTo, madeCells]
  · intro i h1 h2
    simp [fillTo, madeCells, Nat.mod_one]
theorem fill_get (z : Value) (f : Nat → Value) (n k i : Nat) (h : i < n) : (fillTo z f n k)[i]? = some (if i < k then f i else z) := by
  simp [fillTo, h]
theorem fill_set (z : Value) (f : Nat → Value) (n k : Nat) (h : k < n) : (fillTo z f n k).setIfInBounds k (f k) = fillTo z f n (k + 1) := by
  apply Array.ext_getElem?
  intro j
  rw [Array.getElem?_setIfInBounds]
  by_cases hj : j < n
  · rw [fill_get z f n (k + 1) j hj]
    by_cases e : k = j
    · subst e
      rw [if_pos rfl, if_pos (by rw [fill_size]; exact h), if_pos (by omega)]
    · rw [if_neg e, fill_get z f n k j hj]
      by_cases hl : j < k
      · rw [if_pos hl, if_pos (by omega)]
      · rw [if_neg hl, if_neg (by omega)]
  · have h1 : (fillTo z f n (k + 1))[j]? = none := Array.getElem?_eq_none (by rw [fill_size]; omega)
    rw [h1, if_neg (by omega)]
    exact Array.getElem?_eq_none (by rw [fill_size]; omega)

theorem get!_at (s : ByteArray) (j : Nat) (h : j < s.size) : s.get! j = s[j] := by
  have : j < s.data.size := h
  show s.data[j]! = s.data[j]
  rw [getElem!_pos s.data j this]
theorem byteI_eq {a : UInt8} {k : UInt8} (h : a = k) : ((a.toNat : Int) == (k.toNat : Int)) = true := by subst h; simp
theorem byteI_ne {a : UInt8} {k : UInt8} (h : a ≠ k) : ((a.toNat : Int) == (k.toNat : Int)) = false := by
  rw [beq_eq_false_iff_ne]; intro e; exact h (UInt8.toNat_inj.1 (by omega))

def swapCell (s : ByteArray) (i : Nat) : Value := .int .u8 ((swapC (s.get! i)).toNat : Int)
theorem swap_back (s : ByteArray) (w : World) :
    (convert 59 9 (.slice (some ⟨w.heap.size, 0, none⟩) s.size s.size)).run Tryd.prog (w.alloc (.cells (fillTo (.int .u8 0) (swapCell s) s.size s.size) 5)) = .ok (.string ⟨(swap s.data.toList).toArray⟩) (w.alloc (.cells (fillTo (.int .u8 0) (swapCell s) s.size s.size) 5)) := by
  have hl : (swap s.data.toList).length = s.size := by simp [swap]
  have := run_convert_bytes_back (P := Tryd.prog) (w.alloc (.cells (fillTo (.int .u8 0) (swapCell s) s.size s.size) 5)) 59 9 5 ⟨w.heap.size, 0, none⟩ s.size (swap s.data.toList) Tryd.underlying59 Tryd.underlying5 Tryd.underlying9 (by
    intro j hj
    have hj' : j < s.size := by omega
    have hp : (⟨w.heap.size, 0, none⟩ : Addr).add j = ⟨w.heap.size, j, none⟩ := by unfold Addr.add; split <;> simp_all
    rw [hp]
    have hc := fill_get (.int .u8 0) (swapCell s) s.size s.size j hj'
    rw [if_pos hj'] at hc
    have he : (w.alloc (.cells (fillTo (.int .u8 0) (swapCell s) s.size s.size) 5)).cell? ⟨w.heap.size, j, none⟩ = (fillTo (.int .u8 0) (swapCell s) s.size s.size)[j]? := by simp
    rw [he, hc]
    unfold swapCell
    rw [get!_at s j hj']
    simp [swap]
    rfl)
  rw [hl] at this
  exact this

set_option maxHeartbeats 1000000 in
theorem swapDash_any (s : ByteArray) (w : World) (hs : s.size ≤ 1048576) :
    Calls Tryd.prog 16 #[.string s] w fun e w' => e = .returned (.string ⟨(swap s.data.toList).toArray⟩) ∧ Below w.heap.size w w' := by
  have hmk := make5 s.size hs
  have hcv := swap_back s w
  go_enter Tryd.func16, Tryd.ntmps16
  go_wp2
  go_loopw [4] (fun i wx => ∃ k : Nat, k ≤ s.size ∧ i = .int .i64 k ∧ wx = w.alloc (.cells (fillTo (.int .u8 0) (swapCell s) s.size k) 5)) (fun i _ => s.size - (intOf i).toNat)
  case atStart => exact ⟨0, Nat.zero_le _, rfl, by rw [fill_zero]⟩
  case round =>
    obtain ⟨k, hk, rfl, rfl⟩ := hrel
    clear hmk
    by_cases hlt : k < s.size
    · have hc := fill_get (.int .u8 0) (swapCell s) s.size k k hlt
      have HF : Hid ((fillTo (.int .u8 0) (swapCell s) s.size k).setIfInBounds k (.int .u8 ((swapC s[k]).toNat : Int)) = fillTo (.int .u8 0) (swapCell s) s.size (k + 1)) := by
        have := fill_set (.int .u8 0) (swapCell s) s.size k hlt
        unfold swapCell at this ⊢
        rw [get!_at s k hlt] at this
        exact this
      clear hcv
      by_cases h95 : s[k] = 95
      · have hv : ((s[k].toNat : Int) == 95) = true := byteI_eq h95
        have HQ : Hid ((((swapC s[k]).toNat : Nat) : Int) = 45) := by rw [h95]; rfl
        clear h95
        go_wp2
        go_roundw
        case rel => exact ⟨k + 1, by omega, by go_num, by rw [← HF.out, HQ.out]⟩
        case measure => simp [intOf]; omega
      · have hv : ((s[k].toNat : Int) == 95) = false := byteI_ne h95
        by_cases h45 : s[k] = 45
        · have hv2 : ((s[k].toNat : Int) == 45) = true := byteI_eq h45
          have HQ : Hid ((((swapC s[k]).toNat : Nat) : Int) = 95) := by rw [h45]; rfl
          clear h95 h45
          go_wp2
          go_roundw
          case rel => exact ⟨k + 1, by omega, by go_num, by rw [← HF.out, HQ.out]⟩
          case measure => simp [intOf]; omega
        · have hv2 : ((s[k].toNat : Int) == 45) = false := byteI_ne h45
          have HQ : Hid ((((swapC s[k]).toNat : Nat) : Int) = (s[k].toNat : Int)) := by unfold swapC; rw [if_neg h95, if_neg h45]; rfl
          clear h95 h45
          go_wp2
          go_roundw
          case rel => exact ⟨k + 1, by omega, by go_num, by rw [← HF.out, HQ.out]⟩
          case measure => simp [intOf]; omega
    · obtain rfl : k = s.size := by omega
      go_wp2
      go_ret
      exact ⟨rfl, (Below.refl _ w).alloc (Nat.le_refl _) _⟩

def canonB (s : ByteArray) : ByteArray := ⟨(canon s.data.toList).toArray⟩

set_option maxHeartbeats 1000000 in
theorem key_any (p : Nat) (tx : ByteArray) (w : World) (hsh : w.ShapedOpen Tryd.prog) (hc : w.cell? ⟨p, 4, none⟩ = some (.string tx)) (ht : tx.size ≤ 1048576) :
    Calls Tryd.prog 18 #[.pointer (some ⟨p, 0, none⟩)] w fun e w' => e = .returned (.string (canonB tx)) ∧ Below w.heap.size w w' := by
  have hle := Lib.countB_mul_le (⟨#[95]⟩ : ByteArray) (by decide) tx.size tx (Nat.le_refl _)
  have cR := Tryd.strings_ReplaceAll_shaped tx ⟨#[95]⟩ ⟨#[45]⟩ w hsh (by omega) (by decide) (by
    have e1 : (⟨#[95]⟩ : ByteArray).size = 1 := rfl
    have e2 : (⟨#[45]⟩ : ByteArray).size = 1 := rfl
    rw [e1] at hle; rw [e2]; omega)
  have e3 : Lib.replaceAll tx.data.toList (⟨#[95]⟩ : ByteArray).data.toList (⟨#[45]⟩ : ByteArray).data.toList = canon tx.data.toList := replaceAll_canon _
  rw [e3] at cR
  have HC : Hid (Calls Tryd.prog 21 #[.string tx, .string ⟨#[95]⟩, .string ⟨#[45]⟩] w fun e w' => e = .returned (.string (canonB tx)) ∧ Below w.heap.size w w') := cR
  clear cR e3 hle hsh
  go_enter Tryd.func18, Tryd.ntmps18
  go_wp2_with fail
  refine HC.out.mono ?_
  rintro e w1 ⟨rfl, hb⟩
  go_wp2_with fail
  go_ret
  exact ⟨rfl, hb⟩
end Go.Proofs.Qxb6604659aDoor
