/-
  SEAT b6604498aD: the walks of the laws' small functions over bytes and strings.
-/
import Derived.Test.Qxb6604498aDoorProg
import Derived.Lib.Case
import Derived.Lib.IndexBytes
import Derived.WalkKit
import Derived.Below
import Derived.Deep.QuietTactic
import Derived.BigQuiet
namespace Go.Proofs.Qxb6604498aDoor
open Go Go.RowKit
set_option linter.unusedVariables false
set_option linter.unusedSimpArgs false

theorem ret_bool {a b : Bool} (h : a = b) : Ending.returned (.bool a) = .returned (.bool b) := by rw [h]
theorem ret_int {k : IntKind} {a b : Int} (h : a = b) : Ending.returned (.int k a) = .returned (.int k b) := by rw [h]

theorem lowerB_nat (c : UInt8) : (Lib.lowerB c).toNat = if 65 ≤ c.toNat ∧ c.toNat ≤ 90 then c.toNat + 32 else c.toNat := by
  have h : ((List.range 256).all fun n => (Lib.lowerB n.toUInt8).toNat == if 65 ≤ n ∧ n ≤ 90 then n + 32 else n) = true := by decide +kernel
  have := List.all_eq_true.1 h c.toNat (List.mem_range.2 c.toNat_lt)
  have e : c.toNat.toUInt8 = c := by simp
  rw [e] at this
  exact beq_iff_eq.1 this

set_option maxHeartbeats 400000 in
theorem lower_any (c : UInt8) (w : World) :
    Calls Tryd.prog 14 #[.int .u8 (c.toNat : Int)] w fun e w' => e = .returned (.int .u8 ((Lib.lowerB c).toNat : Int)) ∧ w' = w := by
  have hb := c.toNat_lt
  rw [lowerB_nat c]
  generalize c.toNat = n at hb
  have HX : Hid ((((if 65 ≤ n ∧ n ≤ 90 then n + 32 else n : Nat)) : Int) = _) := rfl
  clear HX
  by_cases h : 65 ≤ n ∧ n ≤ 90
  · rw [if_pos h]
    obtain ⟨h1, h2⟩ := h
    have hw : IntKind.u8.wrap ((n : Int) + 32) = (n : Int) + 32 := by rw [IntKind.wrap_u8]; omega
    go_enter Tryd.func14, Tryd.ntmps14
    go_wp2
    go_ret
    exact ⟨ret_int (by first | rfl | omega), rfl⟩
  · rw [if_neg h]
    by_cases h1 : 65 ≤ n
    all_goals
      go_enter Tryd.func14, Tryd.ntmps14
      go_wp2
      go_ret
      exact ⟨rfl, rfl⟩

def asciiB (s : ByteArray) : Bool := s.data.toList.all fun b => decide (b.toNat < 128)
theorem drop_at (s : ByteArray) (k : Nat) (h : k < s.size) : s.data.toList.drop k = s[k] :: s.data.toList.drop (k + 1) := by
  rw [List.drop_eq_getElem_cons (by simpa using h)]; rfl
theorem drop_end (s : ByteArray) (k : Nat) (h : s.size ≤ k) : s.data.toList.drop k = [] := List.drop_eq_nil_of_le (by simpa using h)

set_option maxHeartbeats 400000 in
theorem isASCII_any (s : ByteArray) (w : World) (hs : s.size ≤ maxLen) :
    Calls Tryd.prog 6 #[.string s] w fun e w' => e = .returned (.bool (asciiB s)) ∧ w' = w := by
  unfold maxLen at hs
  go_enter Tryd.func6, Tryd.ntmps6
  go_wp2
  go_loop [3] (fun i => ∃ k : Nat, k ≤ s.size ∧ i = .int .i64 k ∧ Hid ((s.data.toList.drop k).all (fun b => decide (b.toNat < 128)) = asciiB s)) (fun i => s.size - (intOf i).toNat)
  case atStart => exact ⟨0, Nat.zero_le _, rfl, rfl⟩
  case round =>
    obtain ⟨k, hk, rfl, HD⟩ := hrel
    by_cases hlt : k < s.size
    · have HE : Hid ((decide (s[k].toNat < 128) && (s.data.toList.drop (k + 1)).all (fun b => decide (b.toNat < 128))) = asciiB s) := by
        have := HD.out; rw [drop_at s k hlt, List.all_cons] at this; exact this
      clear HD
      by_cases hb : s[k].toNat < 128
      · have HF : Hid ((s.data.toList.drop (k + 1)).all (fun b => decide (b.toNat < 128)) = asciiB s) := by
          have := HE.out; rw [decide_eq_true hb] at this; exact this
        have hv : ¬ (128 : Int) ≤ (s[k].toNat : Int) := by omega
        clear hb HE
        go_wp2
        go_round
        case rel => exact ⟨k + 1, by omega, by go_num, HF⟩
        case measure => simp [intOf]; omega
      · have HF : Hid (false = asciiB s) := by
          have := HE.out; rw [decide_eq_false hb] at this; exact this
        have hv : (128 : Int) ≤ (s[k].toNat : Int) := by omega
        clear hb HE
        go_wp2
        go_ret
        exact ⟨ret_bool HF.out, rfl⟩
    · have HE : Hid (true = asciiB s) := by have := HD.out; rw [drop_end s k (by omega)] at this; exact this
      clear HD
      go_wp2
      go_ret
      exact ⟨ret_bool (by rw [← HE.out]), rfl⟩

/-- zzFoldsTo, zzSameFold from place k on. -/
def foldsTo : List UInt8 → List UInt8 → Bool
  | [], [] => true
  | a :: l, b :: m => (Lib.lowerB a == b) && foldsTo l m
  | _, _ => false
theorem foldsTo_eq : ∀ l m : List UInt8, foldsTo l m = (Lib.toLowerA l == m)
  | [], [] => rfl
  | [], b :: m => rfl
  | a :: l, [] => rfl
  | a :: l, b :: m => by
    show ((Lib.lowerB a == b) && foldsTo l m) = _
    rw [foldsTo_eq l m]
    rfl

theorem byte_ne_true {a b : UInt8} (h : a ≠ b) : ((a.toNat : Int) != (b.toNat : Int)) = true := by
  rw [bne_iff_ne]; intro e; exact h (UInt8.toNat_inj.1 (by omega))
theorem byte_ne_false {a b : UInt8} (h : a = b) : ((a.toNat : Int) != (b.toNat : Int)) = false := by subst h; simp

theorem drewN_two (w : World) (a b : Nat) : (w.drewN a).drewN b = w.drewN (a + b) := by simp
theorem drewN_more {w u : World} (h : ∃ n, u = w.drewN n) (m : Nat) : ∃ n, u.drewN m = w.drewN n := by
  obtain ⟨n, rfl⟩ := h; exact ⟨n + m, drewN_two w n m⟩

set_option maxHeartbeats 1000000 in
theorem foldsTo_any (s t : ByteArray) (w : World) (hs : s.size ≤ maxLen) (ht : t.size ≤ maxLen) :
    Calls Tryd.prog 9 #[.string s, .string t] w fun e w' => e = .returned (.bool (Lib.toLowerA s.data.toList == t.data.toList)) ∧ ∃ n, w' = w.drewN n := by
  unfold maxLen at hs ht
  rw [← foldsTo_eq]
  by_cases hl : s.size = t.size
  · have hne : ((s.size : Int) != (t.size : Int)) = false := by rw [hl]; simp
    have HL : Hid (s.size = t.size) := hl
    clear hl
    go_enter Tryd.func9, Tryd.ntmps9
    go_wp2
    go_loopw [5] (fun i wx => ∃ k : Nat, k ≤ s.size ∧ i = .int .i64 k ∧ Hid (∃ n, wx = w.drewN n) ∧ Hid (foldsTo (s.data.toList.drop k) (t.data.toList.drop k) = foldsTo s.data.toList t.data.toList)) (fun i _ => s.size - (intOf i).toNat)
    case atStart => exact ⟨0, Nat.zero_le _, rfl, ⟨0, rfl⟩, rfl⟩
    case round =>
      obtain ⟨k, hk, rfl, HW, HD⟩ := hrel
      by_cases hlt : k < s.size
      · have hlt2 : k < t.size := by rw [← HL.out]; exact hlt
        have HE : Hid (((Lib.lowerB s[k] == t[k]) && foldsTo (s.data.toList.drop (k + 1)) (t.data.toList.drop (k + 1))) = foldsTo s.data.toList t.data.toList) := by
          have := HD.out; rw [drop_at s k hlt, drop_at t k hlt2] at this; exact this
        have i1 : (k : Int) < (s.size : Int) := by omega
        have i2 : (k : Int) < (t.size : Int) := by omega
        clear HD
        by_cases hb : Lib.lowerB s[k] = t[k]
        · have hv := byte_ne_false hb
          have HF : Hid (foldsTo (s.data.toList.drop (k + 1)) (t.data.toList.drop (k + 1)) = foldsTo s.data.toList t.data.toList) := by
            have := HE.out; rw [beq_iff_eq.2 hb] at this; exact this
          clear hb HE
          go_wp2
          go_quiet ((go_at_call 14; exact Calls.quiet_of_same (lower_any _ _)))
          have HW2 : Hid (∃ n, wr.drewN nq = w.drewN n) := drewN_more HW.out nq
          generalize wr.drewN nq = wq at HW2 ⊢
          go_wp2
          go_roundw
          case rel => exact ⟨k + 1, by omega, by go_num, HW2, HF⟩
          case measure => simp [intOf]; omega
        · have hv := byte_ne_true hb
          have HF : Hid (false = foldsTo s.data.toList t.data.toList) := by
            have := HE.out; rw [beq_eq_false_iff_ne.2 hb] at this; exact this
          clear hb HE
          go_wp2
          go_quiet ((go_at_call 14; exact Calls.quiet_of_same (lower_any _ _)))
          have HW2 : Hid (∃ n, wr.drewN nq = w.drewN n) := drewN_more HW.out nq
          generalize wr.drewN nq = wq at HW2 ⊢
          go_wp2
          go_ret
          exact ⟨ret_bool HF.out, HW2.out⟩
      · have HE : Hid (true = foldsTo s.data.toList t.data.toList) := by
          have := HD.out; rw [drop_end s k (by omega), drop_end t k (by rw [← HL.out]; omega)] at this; exact this
        clear HD
        go_wp2
        go_ret
        exact ⟨ret_bool HE.out, HW.out⟩
  · have hne : ((s.size : Int) != (t.size : Int)) = true := by rw [bne_iff_ne]; omega
    have HE : Hid (false = foldsTo s.data.toList t.data.toList) := by
      show false = foldsTo s.data.toList t.data.toList
      rw [foldsTo_eq]
      symm
      rw [beq_eq_false_iff_ne]
      intro e
      apply hl
      have := congrArg List.length e
      simpa [Lib.toLowerA] using this
    clear hl
    go_enter Tryd.func9, Tryd.ntmps9
    go_wp2
    go_ret
    exact ⟨ret_bool HE.out, 0, rfl⟩

def sameFold : List UInt8 → List UInt8 → Bool
  | [], [] => true
  | a :: l, b :: m => (Lib.lowerB a == Lib.lowerB b) && sameFold l m
  | _, _ => false
theorem sameFold_eq : ∀ l m : List UInt8, sameFold l m = (Lib.toLowerA l == Lib.toLowerA m)
  | [], [] => rfl
  | [], b :: m => rfl
  | a :: l, [] => rfl
  | a :: l, b :: m => by
    show ((Lib.lowerB a == Lib.lowerB b) && sameFold l m) = _
    rw [sameFold_eq l m]
    rfl

set_option maxHeartbeats 1000000 in
theorem sameFold_any (s t : ByteArray) (w : World) (hs : s.size ≤ maxLen) (ht : t.size ≤ maxLen) :
    Calls Tryd.prog 12 #[.string s, .string t] w fun e w' => e = .returned (.bool (Lib.toLowerA s.data.toList == Lib.toLowerA t.data.toList)) ∧ ∃ n, w' = w.drewN n := by
  unfold maxLen at hs ht
  rw [← sameFold_eq]
  by_cases hl : s.size = t.size
  · have hne : ((s.size : Int) != (t.size : Int)) = false := by rw [hl]; simp
    have HL : Hid (s.size = t.size) := hl
    clear hl
    go_enter Tryd.func12, Tryd.ntmps12
    go_wp2
    go_loopw [5] (fun i wx => ∃ k : Nat, k ≤ s.size ∧ i = .int .i64 k ∧ Hid (∃ n, wx = w.drewN n) ∧ Hid (sameFold (s.data.toList.drop k) (t.data.toList.drop k) = sameFold s.data.toList t.data.toList)) (fun i _ => s.size - (intOf i).toNat)
    case atStart => exact ⟨0, Nat.zero_le _, rfl, ⟨0, rfl⟩, rfl⟩
    case round =>
      obtain ⟨k, hk, rfl, HW, HD⟩ := hrel
      by_cases hlt : k < s.size
      · have hlt2 : k < t.size := by rw [← HL.out]; exact hlt
        have HE : Hid (((Lib.lowerB s[k] == Lib.lowerB t[k]) && sameFold (s.data.toList.drop (k + 1)) (t.data.toList.drop (k + 1))) = sameFold s.data.toList t.data.toList) := by
          have := HD.out; rw [drop_at s k hlt, drop_at t k hlt2] at this; exact this
        have i1 : (k : Int) < (s.size : Int) := by omega
        have i2 : (k : Int) < (t.size : Int) := by omega
        clear HD
        by_cases hb : Lib.lowerB s[k] = Lib.lowerB t[k]
        · have hv := byte_ne_false hb
          have HF : Hid (sameFold (s.data.toList.drop (k + 1)) (t.data.toList.drop (k + 1)) = sameFold s.data.toList t.data.toList) := by
            have := HE.out; rw [beq_iff_eq.2 hb] at this; exact this
          clear hb HE
          go_wp2
          go_quiet ((go_at_call 14; exact Calls.quiet_of_same (lower_any _ _)))
          have HW2 : Hid (∃ n, wr.drewN nq = w.drewN n) := drewN_more HW.out nq
          generalize wr.drewN nq = wq at HW2 ⊢
          go_wp2
          go_roundw
          case rel => exact ⟨k + 1, by omega, by go_num, HW2, HF⟩
          case measure => simp [intOf]; omega
        · have hv := byte_ne_true hb
          have HF : Hid (false = sameFold s.data.toList t.data.toList) := by
            have := HE.out; rw [beq_eq_false_iff_ne.2 hb] at this; exact this
          clear hb HE
          go_wp2
          go_quiet ((go_at_call 14; exact Calls.quiet_of_same (lower_any _ _)))
          have HW2 : Hid (∃ n, wr.drewN nq = w.drewN n) := drewN_more HW.out nq
          generalize wr.drewN nq = wq at HW2 ⊢
          go_wp2
          go_ret
          exact ⟨ret_bool HF.out, HW2.out⟩
      · have HE : Hid (true = sameFold s.data.toList t.data.toList) := by
          have := HD.out; rw [drop_end s k (by omega), drop_end t k (by rw [← HL.out]; omega)] at this; exact this
        clear HD
        go_wp2
        go_ret
        exact ⟨ret_bool HE.out, HW.out⟩
  · have hne : ((s.size : Int) != (t.size : Int)) = true := by rw [bne_iff_ne]; omega
    have HE : Hid (false = sameFold s.data.toList t.data.toList) := by
      show false = sameFold s.data.toList t.data.toList
      rw [sameFold_eq]
      symm
      rw [beq_eq_false_iff_ne]
      intro e
      apply hl
      have := congrArg List.length e
      simpa [Lib.toLowerA] using this
    clear hl
    go_enter Tryd.func12, Tryd.ntmps12
    go_wp2
    go_ret
    exact ⟨ret_bool HE.out, 0, rfl⟩
end Go.Proofs.Qxb6604498aDoor
