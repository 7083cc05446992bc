/-
  SEAT b6604306aD: the walks of the plain bytes' functions: isLetterOrDigit, isDomain's literal, the two byte predicates of the laws, the bound on the length, the two automata.
-/
import Derived.Test.Qxb6604306aDoorProg
import Derived.Test.Qxb6604306aDoorPlain
import Derived.WalkKit
import Derived.Below
namespace Go.Proofs.Qxb6604306aDoor
open Go Go.RowKit Plain
set_option linter.unusedVariables false
set_option linter.unusedSimpArgs false

theorem ret_bool {a b : Bool} (h : a = b) : Ending.returned (.bool a) = .returned (.bool b) := by rw [h]

set_option maxHeartbeats 400000 in
theorem isLetterOrDigit_any (x : Nat) (w : World) (hx : (x : Int) ≤ 1114111) :
    Calls Tryd.prog 22 #[.int .i32 (x : Int)] w fun e w' => e = .returned (.bool (isLD x)) ∧ w' = w := by
  go_enter Tryd.func22, Tryd.ntmps22
  go_wp2
  all_goals
    go_ret
    refine ⟨ret_bool ?_, rfl⟩
    unfold isLD
    rw [Bool.eq_iff_iff]
    simp only [Bool.or_eq_true, Bool.and_eq_true, decide_eq_true_eq, Bool.false_eq_true, true_iff, false_iff]
    omega

/-- what isDomain's literal asks: neither a letter, a digit nor a hyphen. -/
def offD (x : Nat) : Bool := !ldh x
def offA (x : Nat) : Bool := !atx x

set_option maxHeartbeats 400000 in
theorem domainLit_any (x : Nat) (w : World) (hx : (x : Int) ≤ 1114111) :
    Calls Tryd.prog 21 #[.int .i32 (x : Int)] w fun e w' => e = .returned (.bool (offD x)) ∧ w' = w := by
  cases hl : isLD x
  · have HL : Hid (isLD x = false) := hl
    go_enter Tryd.func21, Tryd.ntmps21
    go_wp2_with (go_at_call 22; refine (isLetterOrDigit_any _ _ hx).mono ?_; rw [HL.out]; rintro e w' ⟨rfl, rfl⟩)
    go_ret
    refine ⟨ret_bool ?_, rfl⟩
    unfold offD ldh
    rw [HL.out, Bool.eq_iff_iff]
    simp
    omega
  · have HL : Hid (isLD x = true) := hl
    go_enter Tryd.func21, Tryd.ntmps21
    go_wp2_with (go_at_call 22; refine (isLetterOrDigit_any _ _ hx).mono ?_; rw [HL.out]; rintro e w' ⟨rfl, rfl⟩)
    go_ret
    refine ⟨ret_bool ?_, rfl⟩
    unfold offD ldh
    rw [HL.out]
    simp

set_option maxHeartbeats 400000 in
theorem isLDHByte_any (b : UInt8) (w : World) :
    Calls Tryd.prog 16 #[.int .u8 (b.toNat : Int)] w fun e w' => e = .returned (.bool (ldh b.toNat)) ∧ w' = w := by
  have hb := b.toNat_lt
  generalize b.toNat = n at hb
  go_enter Tryd.func16, Tryd.ntmps16
  go_wp2
  all_goals
    go_ret
    refine ⟨ret_bool ?_, rfl⟩
    unfold ldh isLD
    rw [Bool.eq_iff_iff]
    simp only [Bool.or_eq_true, Bool.and_eq_true, decide_eq_true_eq, Bool.false_eq_true, true_iff, false_iff, beq_iff_eq]
    omega

theorem atx_spec (n : Nat) (h : n < 256) : atx n = true ↔ (97 ≤ n ∧ n ≤ 122) ∨ (65 ≤ n ∧ n ≤ 90) ∨ (48 ≤ n ∧ n ≤ 57) ∨ n = 33 ∨ n = 35 ∨ n = 36 ∨ n = 37 ∨ n = 38 ∨ n = 39 ∨ n = 42 ∨ n = 43 ∨ n = 45 ∨ n = 47 ∨ n = 61 ∨ n = 63 ∨ n = 94 ∨ n = 95 ∨ n = 96 ∨ n = 123 ∨ n = 124 ∨ n = 125 ∨ n = 126 := by
  have key : ((List.range 256).all fun n => atx n == (decide (97 ≤ n ∧ n ≤ 122) || decide (65 ≤ n ∧ n ≤ 90) || decide (48 ≤ n ∧ n ≤ 57) || [33, 35, 36, 37, 38, 39, 42, 43, 45, 47, 61, 63, 94, 95, 96, 123, 124, 125, 126].contains n)) = true := by decide +kernel
  have := List.all_eq_true.1 key n (List.mem_range.2 h)
  rw [beq_iff_eq.1 this]
  simp only [Bool.or_eq_true, decide_eq_true_eq, List.contains_eq_mem, List.mem_cons, List.mem_nil_iff, or_false, or_assoc]

set_option maxHeartbeats 1000000 in
theorem isAtextByte_any (b : UInt8) (w : World) :
    Calls Tryd.prog 14 #[.int .u8 (b.toNat : Int)] w fun e w' => e = .returned (.bool (atx b.toNat)) ∧ w' = w := by
  have hb := b.toNat_lt
  have hs := atx_spec b.toNat hb
  generalize b.toNat = n at hb hs
  have HS : Hid (atx n = true ↔ _) := hs
  clear hs
  go_enter Tryd.func14, Tryd.ntmps14
  go_wp2
  all_goals
    go_ret
    refine ⟨ret_bool ?_, rfl⟩
    try simp only [beq_iff_eq, beq_eq_false_iff_ne, ne_eq] at *
    first | exact (HS.out.2 (by omega)).symm | exact (Bool.eq_false_iff.2 (fun h => by have := HS.out.1 h; omega)).symm

set_option maxHeartbeats 400000 in
theorem fits1_any (s : ByteArray) (w : World) (hs : s.size ≤ maxLen) :
    Calls Tryd.prog 6 #[.string s] w fun e w' => e = .returned (.bool (decide (s.size ≤ 1048576))) ∧ w' = w := by
  unfold maxLen at hs
  go_enter Tryd.func6, Tryd.ntmps6
  go_wp2
  all_goals
    go_ret
    refine ⟨ret_bool ?_, rfl⟩
    simp
    omega
set_option maxHeartbeats 400000 in
theorem fits2_any (s : ByteArray) (w : World) (hs : s.size ≤ maxLen) :
    Calls Tryd.prog 9 #[.string s] w fun e w' => e = .returned (.bool (decide (s.size ≤ 1048576))) ∧ w' = w := by
  unfold maxLen at hs
  go_enter Tryd.func9, Tryd.ntmps9
  go_wp2
  all_goals
    go_ret
    refine ⟨ret_bool ?_, rfl⟩
    simp
    omega
set_option maxHeartbeats 400000 in
theorem fits3_any (s : ByteArray) (w : World) (hs : s.size ≤ maxLen) :
    Calls Tryd.prog 12 #[.string s] w fun e w' => e = .returned (.bool (decide (s.size ≤ 1048576))) ∧ w' = w := by
  unfold maxLen at hs
  go_enter Tryd.func12, Tryd.ntmps12
  go_wp2
  all_goals
    go_ret
    refine ⟨ret_bool ?_, rfl⟩
    simp
    omega

/-! ### the automata -/
theorem byteI_eq {a : UInt8} {k : UInt8} (h : a = k) : ((a.toNat : Int) == (k.toNat : Int)) = true := by subst h; simp
theorem byteI_ne {a : UInt8} {k : UInt8} (h : a ≠ k) : ((a.toNat : Int) == (k.toNat : Int)) = false := by
  rw [beq_eq_false_iff_ne]; intro e; exact h (UInt8.toNat_inj.1 (by omega))
theorem drop_at (s : ByteArray) (k : Nat) (h : k < s.size) : s.data.toList.drop k = s[k] :: s.data.toList.drop (k + 1) := by
  rw [List.drop_eq_getElem_cons (by simpa using h)]; rfl
theorem dm_cons (run : Nat) (la b : UInt8) (l : List UInt8) : dm run la (b :: l) = if b = 46 then (if run = 0 ∨ la = 45 then false else dm 0 b l)
    else if ldh b.toNat = true then (if run = 0 ∧ b = 45 then false else if 63 < run + 1 then false else dm (run + 1) b l) else false := rfl
theorem da_cons (ad : Bool) (b : UInt8) (l : List UInt8) : da ad (b :: l) = if b = 46 then (if ad = true then false else da true l) else if atx b.toNat = true then da false l else false := rfl
theorem dm_nil (s : ByteArray) (k run : Nat) (la : UInt8) (h : s.size ≤ k) : dm run la (s.data.toList.drop k) = (decide (0 < run) && (la != 45)) := by
  rw [List.drop_eq_nil_of_le (by simpa using h)]; rfl
theorem da_nil (s : ByteArray) (k : Nat) (ad : Bool) (h : s.size ≤ k) : da ad (s.data.toList.drop k) = !ad := by
  rw [List.drop_eq_nil_of_le (by simpa using h)]; rfl

set_option maxHeartbeats 1000000 in
theorem domainModel_any (s : ByteArray) (w : World) (hs : s.size ≤ maxLen) :
    Calls Tryd.prog 11 #[.string s] w fun e w' => e = .returned (.bool (dm 0 46 s.data.toList)) ∧ w' = w := by
  unfold maxLen at hs
  go_enter Tryd.func11, Tryd.ntmps11
  go_wp2
  go_loop [3, 4, 5] (fun r l i => ∃ (k run : Nat) (la : UInt8), k ≤ s.size ∧ run ≤ 63 ∧ i = .int .i64 k ∧ r = .int .i64 run ∧ l = .int .u8 (la.toNat : Int) ∧ Hid (dm run la (s.data.toList.drop k) = dm 0 46 s.data.toList)) (fun _ _ i => s.size - (intOf i).toNat)
  case atStart => exact ⟨0, 0, 46, Nat.zero_le _, by omega, rfl, rfl, rfl, rfl⟩
  case round =>
    obtain ⟨k, run, la, hk, hr, rfl, rfl, rfl, HD⟩ := hrel
    by_cases hlt : k < s.size
    · have hdr := drop_at s k hlt
      have HE : Hid (dm run la (s[k] :: s.data.toList.drop (k + 1)) = dm 0 46 s.data.toList) := by
        have := HD.out; rw [hdr] at this; exact this
      clear hdr HD
      have e45 : ((45 : UInt8).toNat : Int) = 45 := rfl
      by_cases h46 : s[k] = 46
      · have H46 : Hid (s[k] = 46) := h46
        have b46 : ((s[k].toNat : Int) == 46) = true := byteI_eq h46
        clear h46
        by_cases hx : run = 0 ∨ la = 45
        · have HX : Hid (run = 0 ∨ la = 45) := hx
          have hv : ((run : Int) == 0) = true ∨ (((run : Int) == 0) = false ∧ ((la.toNat : Int) == 45) = true) := by
            by_cases h0 : run = 0
            · exact .inl (by simp [h0])
            · exact .inr ⟨by rw [beq_eq_false_iff_ne]; omega, byteI_eq (hx.resolve_left h0)⟩
          clear hx e45
          rcases hv with hv | ⟨hv, hv2⟩
          all_goals
            go_wp2
            go_ret
            exact ⟨ret_bool (by rw [← HE.out, dm_cons, if_pos H46.out, if_pos HX.out]), rfl⟩
        · have HX : Hid (¬ (run = 0 ∨ la = 45)) := hx
          have hv : ((run : Int) == 0) = false := by rw [beq_eq_false_iff_ne]; intro e; exact hx (.inl (by omega))
          have hv2 : ((la.toNat : Int) == 45) = false := byteI_ne (fun e => hx (.inr e))
          clear hx e45
          go_wp2
          go_round
          case rel => exact ⟨k + 1, 0, s[k], by omega, by omega, by go_num, rfl, rfl, (by show _ = _; rw [← HE.out, dm_cons, if_pos H46.out, if_neg HX.out])⟩
          case measure => simp [intOf]; omega
      · have H46 : Hid (¬ s[k] = 46) := h46
        have b46 : ((s[k].toNat : Int) == 46) = false := byteI_ne h46
        clear h46
        cases hl : ldh s[k].toNat
        · have HL : Hid (ldh s[k].toNat = false) := hl
          clear hl e45
          go_wp2_with (go_at_call 16; refine (isLDHByte_any _ _).mono ?_; rw [HL.out]; rintro e w' ⟨rfl, rfl⟩)
          go_ret
          exact ⟨ret_bool (by rw [← HE.out, dm_cons, if_neg H46.out, HL.out]; rfl), rfl⟩
        · have HL : Hid (ldh s[k].toNat = true) := hl
          clear hl
          by_cases hx : run = 0 ∧ s[k] = 45
          · have HX : Hid (run = 0 ∧ s[k] = 45) := hx
            have hv : ((run : Int) == 0) = true := by simp [hx.1]
            have hv2 : ((s[k].toNat : Int) == 45) = true := byteI_eq hx.2
            clear hx e45
            go_wp2_with (go_at_call 16; refine (isLDHByte_any _ _).mono ?_; rw [HL.out]; rintro e w' ⟨rfl, rfl⟩)
            go_ret
            exact ⟨ret_bool (by rw [← HE.out, dm_cons, if_neg H46.out, if_pos HL.out, if_pos HX.out]), rfl⟩
          · have HX : Hid (¬ (run = 0 ∧ s[k] = 45)) := hx
            have hv : (((run : Int) == 0) = true ∧ ((s[k].toNat : Int) == 45) = false) ∨ ((run : Int) == 0) = false := by
              by_cases h0 : run = 0
              · exact .inl ⟨by simp [h0], byteI_ne fun e => hx ⟨h0, e⟩⟩
              · exact .inr (by rw [beq_eq_false_iff_ne]; omega)
            clear hx e45
            by_cases h63 : 63 < run + 1
            · rcases hv with ⟨hv, hv2⟩ | hv
              all_goals
                go_wp2_with (go_at_call 16; refine (isLDHByte_any _ _).mono ?_; rw [HL.out]; rintro e w' ⟨rfl, rfl⟩)
                go_ret
                exact ⟨ret_bool (by rw [← HE.out, dm_cons, if_neg H46.out, if_pos HL.out, if_neg HX.out, if_pos h63]), rfl⟩
            · rcases hv with ⟨hv, hv2⟩ | hv
              all_goals
                go_wp2_with (go_at_call 16; refine (isLDHByte_any _ _).mono ?_; rw [HL.out]; rintro e w' ⟨rfl, rfl⟩)
                go_round
                case rel => exact ⟨k + 1, run + 1, s[k], by omega, by omega, by go_num, by go_num, rfl, (by show _ = _; rw [← HE.out, dm_cons, if_neg H46.out, if_pos HL.out, if_neg HX.out, if_neg h63])⟩
                case measure => simp [intOf]; omega
    · have HN : Hid ((decide (0 < run) && (la != 45)) = dm 0 46 s.data.toList) := by
        have := HD.out; rw [dm_nil s k run la (by omega)] at this; exact this
      clear HD
      by_cases h0 : 0 < run
      · by_cases h45 : la = 45
        · have hv : ((la.toNat : Int) != 45) = false := by rw [h45]; rfl
          have H45 : Hid (la = 45) := h45
          clear h45
          go_wp2
          go_ret
          exact ⟨ret_bool (by rw [← HN.out, H45.out]; simp), rfl⟩
        · have hv : ((la.toNat : Int) != 45) = true := by show (!((la.toNat : Int) == ((45 : UInt8).toNat : Int))) = true; rw [byteI_ne h45]; rfl
          have H45 : Hid (la ≠ 45) := h45
          clear h45
          go_wp2
          go_ret
          exact ⟨ret_bool (by rw [← HN.out]; simp [h0, H45.out]), rfl⟩
      · go_wp2
        go_ret
        exact ⟨ret_bool (by rw [← HN.out]; simp [h0]), rfl⟩

set_option maxHeartbeats 1000000 in
theorem dotAtomModel_any (s : ByteArray) (w : World) (hs : s.size ≤ maxLen) :
    Calls Tryd.prog 8 #[.string s] w fun e w' => e = .returned (.bool (da true s.data.toList)) ∧ w' = w := by
  unfold maxLen at hs
  go_enter Tryd.func8, Tryd.ntmps8
  go_wp2
  go_loop [3, 4] (fun a i => ∃ (k : Nat) (ad : Bool), k ≤ s.size ∧ i = .int .i64 k ∧ a = .bool ad ∧ Hid (da ad (s.data.toList.drop k) = da true s.data.toList)) (fun _ i => s.size - (intOf i).toNat)
  case atStart => exact ⟨0, true, Nat.zero_le _, rfl, rfl, rfl⟩
  case round =>
    obtain ⟨k, ad, hk, rfl, rfl, HD⟩ := hrel
    by_cases hlt : k < s.size
    · have hdr := drop_at s k hlt
      have HE : Hid (da ad (s[k] :: s.data.toList.drop (k + 1)) = da true s.data.toList) := by
        have := HD.out; rw [hdr] at this; exact this
      clear hdr HD
      by_cases h46 : s[k] = 46
      · have H46 : Hid (s[k] = 46) := h46
        have b46 : ((s[k].toNat : Int) == 46) = true := byteI_eq h46
        clear h46
        cases ad
        · go_wp2
          go_round
          case rel => exact ⟨k + 1, true, by omega, by go_num, rfl, (by show _ = _; rw [← HE.out, da_cons, if_pos H46.out]; rfl)⟩
          case measure => simp [intOf]; omega
        · go_wp2
          go_ret
          exact ⟨ret_bool (by rw [← HE.out, da_cons, if_pos H46.out]; rfl), rfl⟩
      · have H46 : Hid (¬ s[k] = 46) := h46
        have b46 : ((s[k].toNat : Int) == 46) = false := byteI_ne h46
        clear h46
        cases hl : atx s[k].toNat
        · have HL : Hid (atx s[k].toNat = false) := hl
          clear hl
          go_wp2_with (go_at_call 14; refine (isAtextByte_any _ _).mono ?_; rw [HL.out]; rintro e w' ⟨rfl, rfl⟩)
          go_ret
          exact ⟨ret_bool (by rw [← HE.out, da_cons, if_neg H46.out, HL.out]; rfl), rfl⟩
        · have HL : Hid (atx s[k].toNat = true) := hl
          clear hl
          go_wp2_with (go_at_call 14; refine (isAtextByte_any _ _).mono ?_; rw [HL.out]; rintro e w' ⟨rfl, rfl⟩)
          go_round
          case rel => exact ⟨k + 1, false, by omega, by go_num, rfl, (by show _ = _; rw [← HE.out, da_cons, if_neg H46.out, if_pos HL.out])⟩
          case measure => simp [intOf]; omega
    · have HN : Hid ((!ad) = da true s.data.toList) := by
        have := HD.out; rw [da_nil s k ad (by omega)] at this; exact this
      clear HD
      go_wp2
      go_ret
      exact ⟨ret_bool (by rw [← HN.out]), rfl⟩
end Go.Proofs.Qxb6604306aDoor
