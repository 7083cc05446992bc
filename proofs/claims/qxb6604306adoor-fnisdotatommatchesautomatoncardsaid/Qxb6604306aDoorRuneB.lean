/-
  SEAT b6604306aD: strings.IndexRune over an ASCII text at a valid rune beyond ASCII: -1: its UTF-8 text is of two, three or four bytes.
-/
import Derived.Test.Qxb6604306aDoorRuneA
import Derived.Shelf.Strings.FuncGrows
namespace Go.Proofs.Qxb6604306aDoor
open Go Go.RowKit Plain
set_option linter.unusedVariables false
set_option linter.unusedSimpArgs false

set_option maxRecDepth 1000000 in
set_option maxHeartbeats 2000000 in
theorem indexRune_2 (S E : ByteArray) (hS : (5 : Int) ≤ S.size) (hS2 : (S.size : Int) ≤ 100) (hlow : ∀ x ∈ S.data.toList, x.toNat < 128) (r : Nat) (w : World) (h128 : (128 : Int) ≤ r) (hmax : (r : Int) ≤ 1114111) (hne : ((r : Int) == 65533) = false) (hv : Lib.validRune (r : Int) = true) (hE : Utf8.encode (r : Int) = E) (hsz : E.size = 2) (hb : 128 ≤ (E[1]'(by omega)).toNat) :
    Calls Tryd.prog 29 #[.string S, .int .i32 (r : Int)] w fun e w' => e = .returned (.int .i64 (-1)) ∧ Below w.heap.size w w' := by
  have HV : Hid (Lib.validRune (r : Int) = true) := hv
  have HI : Hid (Lib.indexByte (List.take (S.size - 2) (List.drop 2 S.data.toList)) (E[1]'(by omega)) = -1) := index_high S _ _ _ hlow hb
  have h1 : (((S[1]'(by omega)).toNat : Int) != ((E[1]'(by omega)).toNat : Int)) = true := by
    rw [bne_iff_ne]
    have := hlow (S[1]'(by omega)) (List.mem_of_getElem? (Lib.data_getElem? S 1 (by omega)))
    omega
  have hs1 : (1 : Int) < S.size := by omega
  have hs2 : (2 : Int) ≤ S.size := by omega
  have hwr : IntKind.i64.wrap 2 = 2 := by decide
  clear hv hlow hb
  go_enter Tryd.func29, Tryd.ntmps29
  go_wp2_with (go_at_call 35; refine (Tryd.utf8_ValidRune _ _).mono ?_; rw [HV.out]; rintro e w1 ⟨rfl, rfl⟩)
  go_step3
  go_wp2
  go_loopw [9] (fun i wx => i = .int .i64 1 ∧ wx = w1) (fun _ _ => 0)
  case atStart => exact ⟨rfl, rfl⟩
  case round =>
    obtain ⟨rfl, rfl⟩ := hrel
    go_wp2
    go_step3
    go_wp2
    go_quiet (fail)
    have hbq : Below wr.heap.size wr (wr.drewN nq) := below_drewNg wr nq
    generalize wr.drewN nq = wq at hbq ⊢
    go_wp2
    go_quiet ((go_at_call 34; exact Calls.quiet_of_same (Tryd.strings_IndexByte _ _ _)))
    have hbq2 : Below wr.heap.size wr (wq.drewN nq) := hbq.trans ((below_drewNg wq nq).mono hbq.size)
    generalize wq.drewN nq = wz at hbq2 ⊢
    have hI := HI.out
    go_wp2
    rw [Exit.noGoto_ret]
    go_wp2
    try rw [Exit.noGoto_ret]
    go_wp2
    go_ret
    exact ⟨rfl, hbq2⟩
set_option maxRecDepth 1000000 in
set_option maxHeartbeats 2000000 in
theorem indexRune_3 (S E : ByteArray) (hS : (5 : Int) ≤ S.size) (hS2 : (S.size : Int) ≤ 100) (hlow : ∀ x ∈ S.data.toList, x.toNat < 128) (r : Nat) (w : World) (h128 : (128 : Int) ≤ r) (hmax : (r : Int) ≤ 1114111) (hne : ((r : Int) == 65533) = false) (hv : Lib.validRune (r : Int) = true) (hE : Utf8.encode (r : Int) = E) (hsz : E.size = 3) (hb : 128 ≤ (E[2]'(by omega)).toNat) :
    Calls Tryd.prog 29 #[.string S, .int .i32 (r : Int)] w fun e w' => e = .returned (.int .i64 (-1)) ∧ Below w.heap.size w w' := by
  have HV : Hid (Lib.validRune (r : Int) = true) := hv
  have HI : Hid (Lib.indexByte (List.take (S.size - 3) (List.drop 3 S.data.toList)) (E[2]'(by omega)) = -1) := index_high S _ _ _ hlow hb
  have h1 : (((S[2]'(by omega)).toNat : Int) != ((E[2]'(by omega)).toNat : Int)) = true := by
    rw [bne_iff_ne]
    have := hlow (S[2]'(by omega)) (List.mem_of_getElem? (Lib.data_getElem? S 2 (by omega)))
    omega
  have hs1 : (2 : Int) < S.size := by omega
  have hs2 : (3 : Int) ≤ S.size := by omega
  have hwr : IntKind.i64.wrap 3 = 3 := by decide
  clear hv hlow hb
  go_enter Tryd.func29, Tryd.ntmps29
  go_wp2_with (go_at_call 35; refine (Tryd.utf8_ValidRune _ _).mono ?_; rw [HV.out]; rintro e w1 ⟨rfl, rfl⟩)
  go_step3
  go_wp2
  go_loopw [9] (fun i wx => i = .int .i64 2 ∧ wx = w1) (fun _ _ => 0)
  case atStart => exact ⟨rfl, rfl⟩
  case round =>
    obtain ⟨rfl, rfl⟩ := hrel
    go_wp2
    go_step3
    go_wp2
    go_quiet (fail)
    have hbq : Below wr.heap.size wr (wr.drewN nq) := below_drewNg wr nq
    generalize wr.drewN nq = wq at hbq ⊢
    go_wp2
    go_quiet ((go_at_call 34; exact Calls.quiet_of_same (Tryd.strings_IndexByte _ _ _)))
    have hbq2 : Below wr.heap.size wr (wq.drewN nq) := hbq.trans ((below_drewNg wq nq).mono hbq.size)
    generalize wq.drewN nq = wz at hbq2 ⊢
    have hI := HI.out
    go_wp2
    rw [Exit.noGoto_ret]
    go_wp2
    try rw [Exit.noGoto_ret]
    go_wp2
    go_ret
    exact ⟨rfl, hbq2⟩
set_option maxRecDepth 1000000 in
set_option maxHeartbeats 2000000 in
theorem indexRune_4 (S E : ByteArray) (hS : (5 : Int) ≤ S.size) (hS2 : (S.size : Int) ≤ 100) (hlow : ∀ x ∈ S.data.toList, x.toNat < 128) (r : Nat) (w : World) (h128 : (128 : Int) ≤ r) (hmax : (r : Int) ≤ 1114111) (hne : ((r : Int) == 65533) = false) (hv : Lib.validRune (r : Int) = true) (hE : Utf8.encode (r : Int) = E) (hsz : E.size = 4) (hb : 128 ≤ (E[3]'(by omega)).toNat) :
    Calls Tryd.prog 29 #[.string S, .int .i32 (r : Int)] w fun e w' => e = .returned (.int .i64 (-1)) ∧ Below w.heap.size w w' := by
  have HV : Hid (Lib.validRune (r : Int) = true) := hv
  have HI : Hid (Lib.indexByte (List.take (S.size - 4) (List.drop 4 S.data.toList)) (E[3]'(by omega)) = -1) := index_high S _ _ _ hlow hb
  have h1 : (((S[3]'(by omega)).toNat : Int) != ((E[3]'(by omega)).toNat : Int)) = true := by
    rw [bne_iff_ne]
    have := hlow (S[3]'(by omega)) (List.mem_of_getElem? (Lib.data_getElem? S 3 (by omega)))
    omega
  have hs1 : (3 : Int) < S.size := by omega
  have hs2 : (4 : Int) ≤ S.size := by omega
  have hwr : IntKind.i64.wrap 4 = 4 := by decide
  clear hv hlow hb
  go_enter Tryd.func29, Tryd.ntmps29
  go_wp2_with (go_at_call 35; refine (Tryd.utf8_ValidRune _ _).mono ?_; rw [HV.out]; rintro e w1 ⟨rfl, rfl⟩)
  go_step3
  go_wp2
  go_loopw [9] (fun i wx => i = .int .i64 3 ∧ wx = w1) (fun _ _ => 0)
  case atStart => exact ⟨rfl, rfl⟩
  case round =>
    obtain ⟨rfl, rfl⟩ := hrel
    go_wp2
    go_step3
    go_wp2
    go_quiet (fail)
    have hbq : Below wr.heap.size wr (wr.drewN nq) := below_drewNg wr nq
    generalize wr.drewN nq = wq at hbq ⊢
    go_wp2
    go_quiet ((go_at_call 34; exact Calls.quiet_of_same (Tryd.strings_IndexByte _ _ _)))
    have hbq2 : Below wr.heap.size wr (wq.drewN nq) := hbq.trans ((below_drewNg wq nq).mono hbq.size)
    generalize wq.drewN nq = wz at hbq2 ⊢
    have hI := HI.out
    go_wp2
    rw [Exit.noGoto_ret]
    go_wp2
    try rw [Exit.noGoto_ret]
    go_wp2
    go_ret
    exact ⟨rfl, hbq2⟩
end Go.Proofs.Qxb6604306aDoor
