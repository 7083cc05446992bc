/-
  SEAT b6604306aD: isAtext at every rune, isDotAtom's literal, isDotAtom: strings.Split's pieces, each asked in turn.
-/
import Derived.Test.Qxb6604306aDoorDom
import Derived.Test.Qxb6604306aDoorRuneB
import Derived.Test.Qxb6604306aDoorRuneC
namespace Go.Proofs.Qxb6604306aDoor
open Go Go.RowKit Plain
set_option linter.unusedVariables false
set_option linter.unusedSimpArgs false

def signsB : ByteArray := ⟨#[33, 35, 36, 37, 38, 39, 42, 43, 45, 47, 61, 63, 94, 95, 96, 123, 124, 125, 126]⟩
theorem signs_low : ∀ x ∈ signsB.data.toList, x.toNat < 128 := by decide
theorem signs_size : signsB.size = 19 := rfl

/-- strings.IndexRune over atext's signs at every rune beyond ASCII. -/
theorem indexRune_beyond (r : Nat) (w : World) (h128 : 128 ≤ r) (hmax : r ≤ 1114111) :
    Calls Tryd.prog 29 #[.string signsB, .int .i32 (r : Int)] w fun e w' => e = .returned (.int .i64 (-1)) ∧ Below w.heap.size w w' := by
  have s5 : (5 : Int) ≤ signsB.size := by rw [signs_size]; decide
  have s100 : (signsB.size : Int) ≤ 100 := by rw [signs_size]; decide
  by_cases he : r = 65533
  · subst he
    exact indexRune_error signsB s100 signs_low w
  · have hne : ((r : Int) == 65533) = false := by rw [beq_eq_false_iff_ne]; omega
    cases hv : Lib.validRune (r : Int)
    · exact indexRune_surrogate signsB r w (by omega) (by omega) hne hv
    · rcases encode_forms r hv (by omega) with ⟨a, b, hE, hb⟩ | ⟨a, b, c, hE, hb⟩ | ⟨a, b, c, d, hE, hb⟩
      · exact indexRune_2 signsB _ s5 s100 signs_low r w (by omega) (by omega) hne hv hE rfl hb
      · exact indexRune_3 signsB _ s5 s100 signs_low r w (by omega) (by omega) hne hv hE rfl hb
      · exact indexRune_4 signsB _ s5 s100 signs_low r w (by omega) (by omega) hne hv hE rfl hb

set_option maxHeartbeats 400000 in
theorem containsRune_beyond (r : Nat) (w : World) (h128 : 128 ≤ r) (hmax : r ≤ 1114111) :
    Calls Tryd.prog 25 #[.string signsB, .int .i32 (r : Int)] w fun e w' => e = .returned (.bool false) ∧ Below w.heap.size w w' := by
  have HC : Hid (Calls Tryd.prog 29 #[.string signsB, .int .i32 (r : Int)] w fun e w' => e = .returned (.int .i64 (-1)) ∧ Below w.heap.size w w') := indexRune_beyond r w h128 hmax
  go_enter Tryd.func25, Tryd.ntmps25
  go_wp2_with fail
  refine HC.out.mono ?_
  rintro e w1 ⟨rfl, hb⟩
  go_wp2_with fail
  go_ret
  exact ⟨rfl, hb⟩

/-- strings.ContainsRune over atext's signs at every rune. -/
theorem containsRune_any (r : Nat) (w : World) (hmax : r ≤ 1114111) :
    Calls Tryd.prog 25 #[.string signsB, .int .i32 (r : Int)] w fun e w' => e = .returned (.bool (decide (r < 128) && specials.contains r.toUInt8)) ∧ Below w.heap.size w w' := by
  by_cases h : r < 128
  · refine (Tryd.strings_ContainsRune_ascii signsB r w (by omega) (by omega)).mono ?_
    rintro e w' ⟨rfl, rfl⟩
    refine ⟨ret_bool ?_, Below.refl _ _⟩
    have key : ((List.range 128).all fun r => decide (0 ≤ Lib.indexByte signsB.data.toList r.toUInt8) == (decide (r < 128) && specials.contains r.toUInt8)) = true := by decide +kernel
    have := beq_iff_eq.1 (List.all_eq_true.1 key r (List.mem_range.2 h))
    rw [Int.toNat_natCast]
    exact this
  · rw [decide_eq_false h]
    exact containsRune_beyond r w (by omega) hmax

set_option maxHeartbeats 400000 in
theorem isAtext_any (x : Nat) (w : World) (hx : x ≤ 1114111) :
    Calls Tryd.prog 20 #[.int .i32 (x : Int)] w fun e w' => e = .returned (.bool (atx x)) ∧ Below w.heap.size w w' := by
  have c1 := isLetterOrDigit_any x w (by omega)
  have HC : Hid (Calls Tryd.prog 25 #[.string ⟨#[33, 35, 36, 37, 38, 39, 42, 43, 45, 47, 61, 63, 94, 95, 96, 123, 124, 125, 126]⟩, .int .i32 (x : Int)] w fun e w' => e = .returned (.bool (decide (x < 128) && specials.contains x.toUInt8)) ∧ Below w.heap.size w w') := containsRune_any x w hx
  have HA : Hid (atx x = (isLD x || (decide (x < 128) && specials.contains x.toUInt8))) := rfl
  generalize atx x = A at HA ⊢
  generalize (decide (x < 128) && specials.contains x.toUInt8) = B at HC HA
  cases hl : isLD x
  · rw [hl] at c1 HA
    have H1 : Hid (Calls Tryd.prog 22 #[.int .i32 (x : Int)] w fun e w' => e = .returned (.bool false) ∧ w' = w) := c1
    clear c1 hl
    go_enter Tryd.func20, Tryd.ntmps20
    go_wp2_with fail
    refine H1.out.mono ?_
    rintro e w1 ⟨rfl, rfl⟩
    go_wp2_with fail
    refine HC.out.mono ?_
    rintro e w1 ⟨rfl, hb⟩
    go_wp2_with fail
    go_ret
    exact ⟨ret_bool (by rw [HA.out]; rfl), hb⟩
  · rw [hl] at c1 HA
    have H1 : Hid (Calls Tryd.prog 22 #[.int .i32 (x : Int)] w fun e w' => e = .returned (.bool true) ∧ w' = w) := c1
    clear c1 hl
    go_enter Tryd.func20, Tryd.ntmps20
    go_wp2_with fail
    refine H1.out.mono ?_
    rintro e w1 ⟨rfl, rfl⟩
    go_wp2_with fail
    go_ret
    exact ⟨ret_bool (by rw [HA.out]; rfl), Below.refl _ _⟩

set_option maxHeartbeats 400000 in
theorem atomLit_grows (w : World) : PredGrows Tryd.prog 19 #[] offA w := by
  intro W x hx hb
  show Calls Tryd.prog 19 #[.int .i32 (x : Int)] W _
  have H1 : Hid (Calls Tryd.prog 20 #[.int .i32 (x : Int)] W fun e w' => e = .returned (.bool (atx x)) ∧ Below W.heap.size W w') := isAtext_any x W hx
  unfold offA
  generalize atx x = A at H1 ⊢
  clear hb
  go_enter Tryd.func19, Tryd.ntmps19
  go_wp2_with fail
  refine H1.out.mono ?_
  rintro e w1 ⟨rfl, hb⟩
  go_wp2_with fail
  go_ret
  exact ⟨rfl, hb⟩
theorem enters19 : ∀ args w, (callFunc 19 args).run Tryd.prog w = .ok (.enter 19 args) w := enters_of Tryd.func19 (by kernel_rfl) rfl

theorem goodA_nil (b : ByteArray) (h : b.size = 0) : goodA b.data.toList = false := by
  have : b.data.toList = [] := List.eq_nil_of_length_eq_zero (by simpa using h)
  rw [this]; rfl
theorem offA_high (x : Nat) (h : 128 ≤ x) : offA x = true := by
  unfold offA atx isLD
  have h1 : decide (x ≤ 122) = false := decide_eq_false (by omega)
  have h2 : decide (x ≤ 90) = false := decide_eq_false (by omega)
  have h3 : decide (x ≤ 57) = false := decide_eq_false (by omega)
  have h4 : decide (x < 128) = false := decide_eq_false (by omega)
  simp [h1, h2, h3, h4]
theorem goodA_eq (b : ByteArray) (h : 0 < b.size) : goodA b.data.toList = !(decide (0 ≤ Lib.idxFunc offA true b)) := by
  unfold goodA
  have h2 : b.data.toList.length = b.size := by simp
  have h3 : b.data.toList.isEmpty = false := by
    rw [Bool.eq_false_iff]; intro e
    have := List.isEmpty_iff.1 e
    rw [this] at h2; simp at h2; omega
  have h4 : (fun c : UInt8 => !offA c.toNat) = fun c : UInt8 => atx c.toNat := by funext c; simp [offA]
  rw [h3, idx_neg offA offA_high b, Bool.not_not, h4]
  rfl

set_option maxHeartbeats 2000000 in
theorem isDotAtom_any (s : ByteArray) (w : World) (hsh : w.ShapedOpen Tryd.prog) (hs : s.size ≤ 1048576) :
    Calls Tryd.prog 13 #[.string s] w fun e w' => e = .returned (.bool ((pieces s.data.toList).all goodA)) ∧ Below w.heap.size w w' := by
  have hsp := split_pieces s
  have hlen := Lib.splitB_all dotB (by decide) 0 _ s rfl
  have hcnt := Lib.countB_le dotB (by decide) s.size s (Nat.le_refl _)
  have cS := Tryd.strings_Split_shaped s dotB w hsh (by omega) (by decide)
  generalize Lib.splitB dotB 0 (Lib.countB s dotB) s = L at hsp hlen cS
  generalize Lib.countB s dotB = n at hlen cS hcnt
  have HSP : Hid (L.map (·.data.toList) = pieces s.data.toList) := hsp
  have HLN : Hid (L.length = n + 1) := hlen
  have HCS : Hid (Calls Tryd.prog 17 #[.string s, .string ⟨#[46]⟩] w fun e w' => e = .returned (.slice (some ⟨w.heap.size, 0, none⟩) (n + 1) (n + 1)) ∧ w' = w.alloc (.cells (L.map Value.string).toArray 9)) := cS
  clear hsp hlen cS hsh
  go_enter Tryd.func13, Tryd.ntmps13
  go_wp2_with fail
  refine HCS.out.mono ?_
  rintro e w1 ⟨rfl, hw1⟩
  have hb1 : Below w.heap.size w w1 := by rw [hw1]; exact (Below.refl _ w).alloc (Nat.le_refl _) _
  have hcell : ∀ k (hk : k < L.length), w1.cell? ⟨w.heap.size, k, none⟩ = some (.string L[k]) := by
    intro k hk
    rw [hw1]
    simp [hk]
  have hsz : w.heap.size + 1 ≤ w1.heap.size := by rw [hw1]; simp
  have HC : Hid (∀ k (hk : k < L.length), w1.cell? ⟨w.heap.size, k, none⟩ = some (.string L[k])) := hcell
  clear hw1 hcell
  go_wp2_with fail
  go_loopw [8] (fun i wx => ∃ k : Nat, k ≤ n + 1 ∧ i = .int .i64 k ∧ Below (w.heap.size + 1) w1 wx ∧ Hid ((L.drop k).all (fun b => goodA b.data.toList) = (pieces s.data.toList).all goodA)) (fun i _ => n + 1 - (intOf i).toNat)
  case atStart => exact ⟨0, Nat.zero_le _, rfl, Below.refl _ _, by show _ = _; rw [← HSP.out, List.drop_zero, List.all_map]; rfl⟩
  case round =>
    obtain ⟨k, hk, rfl, hbx, HD⟩ := hrel
    have hbw : Below w.heap.size w wr := hb1.trans (hbx.mono (by omega))
    by_cases hlt : k < n + 1
    · have hkL : k < L.length := by rw [HLN.out]; exact hlt
      have hc : wr.cell? ⟨w.heap.size, k, none⟩ = some (.string L[k]) := by rw [hbx.cell (p := ⟨w.heap.size, k, none⟩) (by simp)]; exact HC.out k hkL
      have HD2 : Hid ((goodA L[k].data.toList && (L.drop (k + 1)).all (fun b => goodA b.data.toList)) = (pieces s.data.toList).all goodA) := by
        have := HD.out; rw [all_at hkL] at this; exact this
      generalize hl : L[k] = lab at hc HD2
      clear hl HD hkL
      by_cases h0 : 0 < lab.size
      · have HZ : Hid (goodA lab.data.toList = !(decide (0 ≤ Lib.idxFunc offA true lab))) := goodA_eq lab h0
        have hne := toList_ne lab h0
        have hie : lab.toList.isEmpty = false := by rw [Bool.eq_false_iff]; intro e; exact hne (List.isEmpty_iff.1 e)
        go_wp2_with fail
        refine (Tryd.strings_IndexFunc_grows 19 #[] enters19 offA lab _ (atomLit_grows _)).mono ?_
        rintro e w2 ⟨rfl, hb2⟩
        have hb3 : Below (w.heap.size + 1) w1 w2 := hbx.trans (hb2.mono (by have := hbx.size; omega))
        have hb4 : Below w.heap.size w w2 := hb1.trans (hb3.mono (by omega))
        generalize Lib.idxFunc offA true lab = I at HZ ⊢
        by_cases hI : 0 ≤ I
        · have HY : Hid (goodA lab.data.toList = false) := by show _ = _; rw [HZ.out, decide_eq_true hI]; rfl
          go_wp2_with fail
          go_ret
          exact ⟨ret_bool (by rw [← HD2.out, HY.out]; rfl), hb4⟩
        · have HY : Hid (goodA lab.data.toList = true) := by show _ = _; rw [HZ.out, decide_eq_false hI]; rfl
          go_wp2_with fail
          go_roundw
          case rel => exact ⟨k + 1, by omega, by go_num, hb3, by show _ = _; rw [← HD2.out, HY.out]; rfl⟩
          case measure => simp [intOf]; omega
      · have HZ : Hid (goodA lab.data.toList = false) := goodA_nil lab (by omega)
        have hnil := toList_nil lab (by omega)
        go_wp2_with fail
        go_ret
        exact ⟨ret_bool (by rw [← HD2.out, HZ.out]; rfl), hbw⟩
    · have HN : Hid (true = (pieces s.data.toList).all goodA) := by
        have := HD.out; rw [List.drop_eq_nil_of_le (by rw [HLN.out]; omega)] at this; exact this
      clear HD
      go_wp2_with fail
      go_ret
      exact ⟨ret_bool (by rw [← HN.out]), hbw⟩
end Go.Proofs.Qxb6604306aDoor
