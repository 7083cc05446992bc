/-
  SEAT b6604659aD: canonEq, keyKnown: they answer plain questions and turn nothing.
-/
import Derived.Test.Qxb6604659aDoorText
namespace Go.Proofs.Qxb6604659aDoor
open Go Go.RowKit
set_option linter.unusedVariables false
set_option linter.unusedSimpArgs false

theorem drop_at (s : ByteArray) (k : Nat) (h : k < s.size) : s.data.toList.drop k = s[k] :: s.data.toList.drop (k + 1) := by
  rw [List.drop_eq_getElem_cons (by simpa using h)]; rfl
theorem drop_end (s : ByteArray) (k : Nat) (h : s.size ≤ k) : s.data.toList.drop k = [] := List.drop_eq_nil_of_le (by simpa using h)

/-- canonEq from place k on. -/
def eqTo : List UInt8 → List UInt8 → Bool
  | [], [] => true
  | a :: l, b :: m => (canonC a == b) && eqTo l m
  | _, _ => false
theorem eqTo_eq : ∀ l m : List UInt8, eqTo l m = (canon l == m)
  | [], [] => rfl
  | [], b :: m => rfl
  | a :: l, [] => rfl
  | a :: l, b :: m => by
    show ((canonC a == b) && eqTo l m) = _
    rw [eqTo_eq l m]
    rfl
theorem byteN_ne {a b : UInt8} (h : a ≠ b) : ((a.toNat : Int) != (b.toNat : Int)) = true := by
  rw [bne_iff_ne]; intro e; exact h (UInt8.toNat_inj.1 (by omega))
theorem byteN_eq {a b : UInt8} (h : a = b) : ((a.toNat : Int) != (b.toNat : Int)) = false := by subst h; simp

/-- does the text's key equal t? -/
def isKey (s t : ByteArray) : Bool := canon s.data.toList == t.data.toList
theorem isKey_iff {s t : ByteArray} : isKey s t = true ↔ canonB s = t := by
  unfold isKey canonB
  rw [beq_iff_eq]
  constructor
  · intro h; rw [h]
  · intro h; rw [← h]

set_option maxHeartbeats 1000000 in
theorem canonEq_any (s t : ByteArray) (w : World) (hs : s.size ≤ maxLen) (ht : t.size ≤ maxLen) :
    Calls Tryd.prog 14 #[.string s, .string t] w fun e w' => e = .returned (.bool (isKey s t)) ∧ w' = w := by
  unfold maxLen at hs ht
  unfold isKey
  rw [← eqTo_eq]
  by_cases hl : s.size = t.size
  · have hne : ((s.size : Int) != (t.size : Int)) = false := by rw [hl]; simp
    have HL : Hid (s.size = t.size) := hl
    clear hl
    go_enter Tryd.func14, Tryd.ntmps14
    go_wp2
    go_loopw [5] (fun i wx => ∃ k : Nat, k ≤ s.size ∧ i = .int .i64 k ∧ wx = w ∧ Hid (eqTo (s.data.toList.drop k) (t.data.toList.drop k) = eqTo s.data.toList t.data.toList)) (fun i _ => s.size - (intOf i).toNat)
    case atStart => exact ⟨0, Nat.zero_le _, rfl, rfl, rfl⟩
    case round =>
      obtain ⟨k, hk, rfl, rfl, HD⟩ := hrel
      by_cases hlt : k < s.size
      · have hlt2 : k < t.size := by rw [← HL.out]; exact hlt
        have HE : Hid (((canonC s[k] == t[k]) && eqTo (s.data.toList.drop (k + 1)) (t.data.toList.drop (k + 1))) = eqTo s.data.toList t.data.toList) := by
          have := HD.out; rw [drop_at s k hlt, drop_at t k hlt2] at this; exact this
        have i1 : (k : Int) < (s.size : Int) := by omega
        have i2 : (k : Int) < (t.size : Int) := by omega
        clear HD
        have yes : canonC s[k] = t[k] → Hid (eqTo (s.data.toList.drop (k + 1)) (t.data.toList.drop (k + 1)) = eqTo s.data.toList t.data.toList) := fun hb => by
          have := HE.out; rw [beq_iff_eq.2 hb] at this; exact this
        have no : canonC s[k] ≠ t[k] → Hid (false = eqTo s.data.toList t.data.toList) := fun hb => by
          have := HE.out; rw [beq_eq_false_iff_ne.2 hb] at this; exact this
        clear HE
        by_cases h95 : s[k] = 95
        · have hv : ((s[k].toNat : Int) == 95) = true := byteI_eq h95
          have hcc : canonC s[k] = 45 := by rw [h95]; rfl
          rw [hcc] at yes no
          by_cases hb : (45 : UInt8) = t[k]
          · have hv2 : ((45 : Int) != (t[k].toNat : Int)) = false := byteN_eq (a := 45) hb
            have HF := yes hb
            clear yes no hb hcc h95
            go_wp2
            go_roundw
            case rel => exact ⟨k + 1, by omega, by go_num, trivial, HF⟩
            case measure => simp [intOf]; omega
          · have hv2 : ((45 : Int) != (t[k].toNat : Int)) = true := byteN_ne (a := 45) hb
            have HF := no hb
            clear yes no hb hcc h95
            go_wp2
            go_ret
            exact ⟨ret_bool HF.out, rfl⟩
        · have hv : ((s[k].toNat : Int) == 95) = false := byteI_ne h95
          have hcc : canonC s[k] = s[k] := by unfold canonC; rw [if_neg h95]
          rw [hcc] at yes no
          by_cases hb : s[k] = t[k]
          · have hv2 := byteN_eq hb
            have HF := yes hb
            clear yes no hb hcc h95
            go_wp2
            go_roundw
            case rel => exact ⟨k + 1, by omega, by go_num, trivial, HF⟩
            case measure => simp [intOf]; omega
          · have hv2 := byteN_ne hb
            have HF := no hb
            clear yes no hb hcc h95
            go_wp2
            go_ret
            exact ⟨ret_bool HF.out, rfl⟩
      · have HE : Hid (true = eqTo s.data.toList t.data.toList) := by
          have := HD.out; rw [drop_end s k (by omega), drop_end t k (by rw [← HL.out]; omega)] at this; exact this
        clear HD
        go_wp2
        go_ret
        exact ⟨ret_bool HE.out, rfl⟩
  · have hne : ((s.size : Int) != (t.size : Int)) = true := by rw [bne_iff_ne]; omega
    have HE : Hid (false = eqTo s.data.toList t.data.toList) := by
      show false = eqTo s.data.toList t.data.toList
      rw [eqTo_eq]
      symm
      rw [beq_eq_false_iff_ne]
      intro e
      apply hl
      have := congrArg List.length e
      simpa [canon] using this
    clear hl
    go_enter Tryd.func14, Tryd.ntmps14
    go_wp2
    go_ret
    exact ⟨ret_bool HE.out, rfl⟩

/-- is some one of the first n keys the text's key? -/
def hasKey (s : ByteArray) (N : Nat → ByteArray) (n : Nat) : Bool := (List.range n).any fun i => isKey s (N i)
theorem hasKey_step (s : ByteArray) (N : Nat → ByteArray) (n : Nat) : hasKey s N (n + 1) = (hasKey s N n || isKey s (N n)) := by
  unfold hasKey; rw [List.range_succ, List.any_append]; simp
theorem hasKey_mono {s : ByteArray} {N : Nat → ByteArray} {n k : Nat} (hk : k < n) (h : isKey s (N k) = true) : hasKey s N n = true :=
  List.any_eq_true.2 ⟨k, List.mem_range.2 hk, h⟩
def knownK (s : ByteArray) (N : Nat → ByteArray) (n : Nat) (fk : ByteArray) (fail : Bool) : Bool := (fail && isKey s fk) || hasKey s N n

/-- a slice of strings as the walks take it: no elements, or the cells of a block. -/
def SAt (w : World) (v : Value) (N : Nat → ByteArray) (n : Nat) : Prop :=
  ∃ a c, v = .slice a n c ∧ (a = none → n = 0 ∧ c = 0) ∧ (0 < n → ∃ b off, a = some ⟨b, off, none⟩ ∧ ∀ i, i < n → w.cell? ⟨b, off + i, none⟩ = some (.string (N i)))
theorem SAt.below {w w' : World} {v : Value} {N : Nat → ByteArray} {n : Nat} (h : SAt w v N n) (hb : Below w.heap.size w w') : SAt w' v N n := by
  obtain ⟨a, c, h1, h2, h3⟩ := h
  refine ⟨a, c, h1, h2, fun hn => ?_⟩
  obtain ⟨b, off, h4, h5⟩ := h3 hn
  exact ⟨b, off, h4, fun i hi => cell_below hb (h5 i hi)⟩

set_option maxRecDepth 100000 in
set_option maxHeartbeats 1000000 in
theorem known_loop (s fk : ByteArray) (fail : Bool) (N : Nat → ByteArray) (b off n cap : Nat) (w : World) (hs : s.size ≤ maxLen) (hf : fk.size ≤ maxLen) (hn : n ≤ 1048576) (hN : ∀ i, i < n → (N i).size ≤ maxLen)
    (hc : ∀ i, i < n → w.cell? ⟨b, off + i, none⟩ = some (.string (N i))) (hfail : (fail && isKey s fk) = false) :
    Calls Tryd.prog 15 #[.string s, .slice (some ⟨b, off, none⟩) n cap, .string fk, .bool fail] w fun e w' => e = .returned (.bool (hasKey s N n)) ∧ w' = w := by
  have HF : Hid (Calls Tryd.prog 14 #[.string s, .string fk] w fun e w' => e = .returned (.bool (isKey s fk)) ∧ w' = w) := canonEq_any s fk w hs hf
  have HK : Hid (∀ i, i < n → Calls Tryd.prog 14 #[.string s, .string (N i)] w fun e w' => e = .returned (.bool (isKey s (N i))) ∧ w' = w) := fun i hi => canonEq_any s (N i) w hs (hN i hi)
  have HC : Hid (∀ i, i < n → w.cell? ⟨b, off + i, none⟩ = some (.string (N i))) := hc
  clear hc hN
  cases fail with
  | false =>
    clear hfail
    go_enter Tryd.func15, Tryd.ntmps15
    go_wp2
    go_loopw [9] (fun i wx => ∃ k : Nat, k ≤ n ∧ i = .int .i64 k ∧ wx = w ∧ Hid (hasKey s N k = false)) (fun i _ => n - (intOf i).toNat)
    case atStart => exact ⟨0, Nat.zero_le _, rfl, rfl, rfl⟩
    case round =>
      obtain ⟨k, hk, rfl, rfl, HD⟩ := hrel
      by_cases hlt : k < n
      · have c0 := HC.out k hlt
        have HKk : Hid (Calls Tryd.prog 14 #[.string s, .string (N k)] wr fun e w' => e = .returned (.bool (isKey s (N k))) ∧ w' = wr) := HK.out k hlt
        have i1 : (k : Int) < (n : Int) := by omega
        go_wp2_with fail
        refine HKk.out.mono ?_
        rintro e w1 ⟨rfl, rfl⟩
        cases hb : isKey s (N k) with
        | true =>
          have HT := hasKey_mono hlt hb
          go_wp2_with fail
          go_ret
          exact ⟨ret_bool HT.symm, rfl⟩
        | false =>
          have HT : Hid (hasKey s N (k + 1) = false) := by
            show hasKey s N (k + 1) = false
            rw [hasKey_step, HD.out, hb]; rfl
          go_wp2_with fail
          go_roundw
          case rel => exact ⟨k + 1, by omega, by go_num, trivial, HT⟩
          case measure => simp [intOf]; omega
      · obtain rfl : k = n := by omega
        go_wp2_with fail
        go_ret
        exact ⟨ret_bool HD.out.symm, rfl⟩
  | true =>
    have hfk : isKey s fk = false := by simpa using hfail
    rw [hfk] at HF
    clear hfail hfk
    go_enter Tryd.func15, Tryd.ntmps15
    go_wp2_with fail
    refine HF.out.mono ?_
    rintro e w1 ⟨rfl, rfl⟩
    go_wp2_with fail
    go_loopw [9] (fun i wx => ∃ k : Nat, k ≤ n ∧ i = .int .i64 k ∧ wx = w1 ∧ Hid (hasKey s N k = false)) (fun i _ => n - (intOf i).toNat)
    case atStart => exact ⟨0, Nat.zero_le _, rfl, rfl, rfl⟩
    case round =>
      obtain ⟨k, hk, rfl, rfl, HD⟩ := hrel
      by_cases hlt : k < n
      · have c0 := HC.out k hlt
        have HKk : Hid (Calls Tryd.prog 14 #[.string s, .string (N k)] wr fun e w' => e = .returned (.bool (isKey s (N k))) ∧ w' = wr) := HK.out k hlt
        have i1 : (k : Int) < (n : Int) := by omega
        go_wp2_with fail
        refine HKk.out.mono ?_
        rintro e w1 ⟨rfl, rfl⟩
        cases hb : isKey s (N k) with
        | true =>
          have HT := hasKey_mono hlt hb
          go_wp2_with fail
          go_ret
          exact ⟨ret_bool HT.symm, rfl⟩
        | false =>
          have HT : Hid (hasKey s N (k + 1) = false) := by
            show hasKey s N (k + 1) = false
            rw [hasKey_step, HD.out, hb]; rfl
          go_wp2_with fail
          go_roundw
          case rel => exact ⟨k + 1, by omega, by go_num, trivial, HT⟩
          case measure => simp [intOf]; omega
      · obtain rfl : k = n := by omega
        go_wp2_with fail
        go_ret
        exact ⟨ret_bool HD.out.symm, rfl⟩

set_option maxRecDepth 100000 in
set_option maxHeartbeats 1000000 in
theorem known_empty (s fk : ByteArray) (fail : Bool) (a : Option Addr) (cap : Nat) (w : World) (hs : s.size ≤ maxLen) (hf : fk.size ≤ maxLen) (hfail : (fail && isKey s fk) = false) :
    Calls Tryd.prog 15 #[.string s, .slice a 0 cap, .string fk, .bool fail] w fun e w' => e = .returned (.bool false) ∧ w' = w := by
  have HF : Hid (Calls Tryd.prog 14 #[.string s, .string fk] w fun e w' => e = .returned (.bool (isKey s fk)) ∧ w' = w) := canonEq_any s fk w hs hf
  cases fail with
  | false =>
    clear hfail
    go_enter Tryd.func15, Tryd.ntmps15
    go_wp2
    go_loopw [9] (fun i wx => i = .int .i64 0 ∧ wx = w) (fun i _ => 0)
    case atStart => exact ⟨rfl, rfl⟩
    case round =>
      obtain ⟨rfl, rfl⟩ := hrel
      go_wp2_with fail
      go_ret
      exact ⟨rfl, rfl⟩
  | true =>
    have hfk : isKey s fk = false := by simpa using hfail
    rw [hfk] at HF
    clear hfail hfk
    go_enter Tryd.func15, Tryd.ntmps15
    go_wp2_with fail
    refine HF.out.mono ?_
    rintro e w1 ⟨rfl, rfl⟩
    go_wp2_with fail
    go_loopw [9] (fun i wx => i = .int .i64 0 ∧ wx = w1) (fun i _ => 0)
    case atStart => exact ⟨rfl, rfl⟩
    case round =>
      obtain ⟨rfl, rfl⟩ := hrel
      go_wp2_with fail
      go_ret
      exact ⟨rfl, rfl⟩

set_option maxRecDepth 100000 in
set_option maxHeartbeats 1000000 in
theorem known_fail (s fk : ByteArray) (a : Option Addr) (l cap : Nat) (w : World) (hs : s.size ≤ maxLen) (hf : fk.size ≤ maxLen) (hfk : isKey s fk = true) :
    Calls Tryd.prog 15 #[.string s, .slice a l cap, .string fk, .bool true] w fun e w' => e = .returned (.bool true) ∧ w' = w := by
  have HF : Hid (Calls Tryd.prog 14 #[.string s, .string fk] w fun e w' => e = .returned (.bool (isKey s fk)) ∧ w' = w) := canonEq_any s fk w hs hf
  rw [hfk] at HF
  clear hfk
  go_enter Tryd.func15, Tryd.ntmps15
  go_wp2_with fail
  refine HF.out.mono ?_
  rintro e w1 ⟨rfl, rfl⟩
  go_wp2_with fail
  go_ret
  exact ⟨rfl, rfl⟩

theorem known_any (s fk : ByteArray) (fail : Bool) (N : Nat → ByteArray) (n : Nat) (v : Value) (w : World) (hs : s.size ≤ maxLen) (hf : fk.size ≤ maxLen) (hn : n ≤ 1048576) (hN : ∀ i, i < n → (N i).size ≤ maxLen) (hv : SAt w v N n) :
    Calls Tryd.prog 15 #[.string s, v, .string fk, .bool fail] w fun e w' => e = .returned (.bool (knownK s N n fk fail)) ∧ w' = w := by
  obtain ⟨a, c, rfl, h2, h3⟩ := hv
  cases hfail : (fail && isKey s fk) with
  | true =>
    have h := hfail
    rw [Bool.and_eq_true] at h
    obtain ⟨rfl, hk⟩ := h
    have : knownK s N n fk true = true := by unfold knownK; rw [hfail]; rfl
    rw [this]
    exact known_fail s fk a n c w hs hf hk
  | false =>
    have : knownK s N n fk fail = hasKey s N n := by unfold knownK; rw [hfail]; rfl
    rw [this]
    by_cases hn0 : 0 < n
    · obtain ⟨b, off, rfl, hc⟩ := h3 hn0
      exact known_loop s fk fail N b off n c w hs hf hn hN hc hfail
    · obtain rfl : n = 0 := by omega
      exact known_empty s fk fail a c w hs hf hfail
end Go.Proofs.Qxb6604659aDoor
