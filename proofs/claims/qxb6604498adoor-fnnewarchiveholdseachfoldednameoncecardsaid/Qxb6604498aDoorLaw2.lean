/-
  SEAT b6604498aD: the law FnNewArchiveHoldsEachFoldedNameOnce, walked.
-/
import Derived.Test.Qxb6604498aDoorLaw1
namespace Go.Proofs.Qxb6604498aDoor
open Go Go.RowKit Go.Maps
set_option linter.unusedVariables false
set_option linter.unusedSimpArgs false

theorem quiet_of_drew {f : FuncId} {args : Array Value} {w : World} {n : Nat} {v : Value}
    (h : Calls Tryd.prog f args (w.drewN n) fun e w' => e = .returned v ∧ ∃ m, w' = (w.drewN n).drewN m) : Calls Tryd.prog f args (w.drewN n) fun e w'' => e = .returned v ∧ ∃ m, w'' = w.drewN m :=
  h.mono fun _ _ ⟨he, m, hm⟩ => ⟨he, n + m, by rw [hm, drewN_two]⟩
theorem sameFold_true (s t : ByteArray) (w : World) (hs : s.size ≤ maxLen) (ht : t.size ≤ maxLen) (h : fold s = fold t) :
    Calls Tryd.prog 12 #[.string s, .string t] w fun e w' => e = .returned (.bool true) ∧ ∃ n, w' = w.drewN n := by
  have := sameFold_any s t w hs ht
  rw [beq_iff_eq.2 h] at this
  exact this
theorem cls_le (N : Nat → ByteArray) (n : Nat) : ∀ j, cls N n j ≤ j
  | 0 => Nat.le_refl _
  | j + 1 => by
    rw [cls_step]
    have := cls_le N n j
    split <;> omega

set_option maxRecDepth 100000 in
set_option maxHeartbeats 4000000 in
theorem once_walk (b off n cap : Nat) (N : Nat → ByteArray) (w : World) (hn : n ≤ maxLen) (hN : ∀ i, (N i).size ≤ maxLen) (hb : b < w.heap.size) (hc : ∀ i, i < n → w.cell? ⟨b, off + i, none⟩ = some (.string (N i))) :
    Calls Tryd.prog 4 #[.slice (some ⟨b, off, none⟩) n cap] w fun e w' => e = .returned (.bool true) ∧ Below w.heap.size w w' := by
  have HB : Hid (Calls Tryd.prog 10 #[.slice (some ⟨b, off, none⟩) n cap] w fun e w' => SomeBool e ∧ w' = w) := bytesOnce_any b off n cap N w hn hN hc
  have HAS : Hid (∀ i u, Calls Tryd.prog 6 #[.string (N i)] u fun e w' => e = .returned (.bool (asciiB (N i))) ∧ w' = u) := fun i u => isASCII_any (N i) u (hN i)
  have HC : Hid (∀ i, i < n → w.cell? ⟨b, off + i, none⟩ = some (.string (N i))) := hc
  have HN : Hid (∀ i, (N i).size ≤ maxLen) := hN
  have HCL : Hid (n ≤ 65536 → Calls Tryd.prog 7 #[.slice (some ⟨b, off, none⟩) n cap] w fun e w' => e = .returned (.slice (some ⟨w.heap.size, 0, none⟩) n n) ∧ w' = cloned w N n) := fun h => clone_any b off n cap N w (by omega) hb hc
  have HNW : Hid (n ≤ 65536 → (∀ i, i < n → (N i).size ≤ 1048576) → (∀ i, i < n → asciiB (N i) = true) → Calls Tryd.prog 8 #[.slice (some ⟨w.heap.size, 0, none⟩) n n] (cloned w N n) fun e w' => ∃ m, e = .returned (.map (some m)) ∧ Archived (cloned w N n) w' N n m) :=
    fun h h1 h2 => zzNew_any w.heap.size n N (cloned w N n) h (by rw [cloned_size]; omega) h1 h2 (fun i hi => cloned_cell w N n i hi)
  clear hc hN
  unfold maxLen at hn
  by_cases h16 : n ≤ 65536
  · go_enter Tryd.func4, Tryd.ntmps4
    go_wp2_with fail
    refine HB.out.mono ?_
    rintro e w0 ⟨⟨B, rfl⟩, rfl⟩
    cases B
    · go_wp2_with fail
      go_ret
      exact ⟨rfl, Below.refl _ _⟩
    · go_wp2_with fail
      go_loop [3, 4] (fun z i => ∃ (k : Nat) (t : Int), k ≤ n ∧ 0 ≤ t ∧ t ≤ 1048576 ∧ z = .int .i64 t ∧ i = .int .i64 k ∧ Hid (∀ i, i < k → (N i).size ≤ 1048576)) (fun _ i => n - (intOf i).toNat)
      case atStart => exact ⟨0, 16 * n, Nat.zero_le _, by omega, by omega, rfl, rfl, fun i hi => by omega⟩
      case round =>
        obtain ⟨k, t, hk2, ht0, ht1, rfl, rfl, HZ⟩ := hrel
        by_cases hlt : k < n
        · have hcx := HC.out k hlt
          have hsz := HN.out k
          unfold maxLen at hsz
          by_cases hbig : (N k).size ≤ 1048576
          · have HZ2 : Hid (∀ i, i < k + 1 → (N i).size ≤ 1048576) := fun i hi => by
              by_cases e : i = k
              · subst e; exact hbig
              · exact HZ.out i (by omega)
            by_cases hsum : t + (N k).size ≤ 1048576
            · go_wp2_with fail
              go_round
              case rel => exact ⟨k + 1, t + (N k).size, by omega, by omega, by omega, rfl, by go_num, HZ2⟩
              case measure => simp [intOf]; omega
            · go_wp2_with fail
              go_ret
              exact ⟨rfl, Below.refl _ _⟩
          · go_wp2_with fail
            go_ret
            exact ⟨rfl, Below.refl _ _⟩
        · obtain rfl : k = n := by omega
          go_wp2_with fail
          go_loop [5] (fun i => ∃ k2 : Nat, k2 ≤ k ∧ i = .int .i64 k2 ∧ Hid (∀ i, i < k2 → asciiB (N i) = true)) (fun i => k - (intOf i).toNat)
          case atStart => exact ⟨0, Nat.zero_le _, rfl, fun i hi => by omega⟩
          case round =>
            obtain ⟨k2, hk3, rfl, HY⟩ := hrel
            by_cases hlt2 : k2 < k
            · have hcx := HC.out k2 hlt2
              cases hasc : asciiB (N k2)
              · have HQ : Hid (asciiB (N k2) = false) := hasc
                clear hasc
                go_wp2_with (go_at_call 6; refine (HAS.out k2 _).mono ?_; rw [HQ.out]; rintro e w1 ⟨rfl, rfl⟩)
                go_ret
                exact ⟨rfl, Below.refl _ _⟩
              · have HY2 : Hid (∀ i, i < k2 + 1 → asciiB (N i) = true) := fun i hi => by
                  by_cases e : i = k2
                  · subst e; exact hasc
                  · exact HY.out i (by omega)
                have HQ : Hid (asciiB (N k2) = true) := hasc
                clear hasc
                go_wp2_with (go_at_call 6; refine (HAS.out k2 _).mono ?_; rw [HQ.out]; rintro e w1 ⟨rfl, rfl⟩)
                go_round
                case rel => exact ⟨k2 + 1, by omega, by go_num, HY2⟩
                case measure => simp [intOf]; omega
            · obtain rfl : k2 = k := by omega
              go_wp2_with fail
              refine (HCL.out h16).mono ?_
              rintro e w1 ⟨rfl, rfl⟩
              go_wp2_with fail
              refine (HNW.out h16 HZ.out HY.out).mono ?_
              rintro e w2 ⟨m, rfl, hAr⟩
              have hcs := cloned_size w0 N k2
              have hcb := cloned_below w0 N k2
              have HCC : Hid (∀ i, i < k2 → (cloned w0 N k2).cell? ⟨w0.heap.size, i, none⟩ = some (.string (N i))) := fun i hi => cloned_cell w0 N k2 i hi
              generalize cloned w0 N k2 = wc at hcs hcb HCC hAr
              have HAr : Hid (Archived wc w2 N k2 m) := hAr
              have hwc : w0.heap.size < wc.heap.size := by omega
              have hsz2 := HAr.out.below.size
              have HC2 : Hid (∀ i, i < k2 → w2.cell? ⟨w0.heap.size, i, none⟩ = some (.string (N i))) := fun i hi => by
                rw [HAr.out.below.cell (p := ⟨w0.heap.size, i, none⟩) hwc]; exact HCC.out i hi
              have hbel : Below w0.heap.size w0 w2 := hcb.trans (HAr.out.below.mono (by omega))
              clear hAr HC HB HAS HCL HNW HCC hcs hcb
              go_wp2_with fail
              go_loopw [7, 8] (fun c i wx => ∃ (j : Nat) (z : Int), j ≤ k2 ∧ i = .int .i64 j ∧ c = .int .i64 z ∧ 0 ≤ z ∧ z ≤ j ∧ Hid (z = (cls N k2 j : Nat)) ∧ Below w2.heap.size w2 wx) (fun _ i _ => k2 - (intOf i).toNat)
              case atStart => exact ⟨0, 0, Nat.zero_le _, rfl, rfl, by omega, by omega, rfl, Below.refl _ _⟩
              case round =>
                obtain ⟨j, z, hj, rfl, rfl, hz1, hz2, HL, hbx⟩ := hrel
                have hbr : Below w0.heap.size w0 wr := hbel.trans (hbx.mono (by omega))
                by_cases hlj : j < k2
                · have hcx : wr.cell? ⟨w0.heap.size, j, none⟩ = some (.string (N j)) := by
                    rw [hbx.cell (p := ⟨w0.heap.size, j, none⟩) (by show w0.heap.size < _; omega)]; exact HC2.out j hlj
                  have HFT : Hid (Calls Tryd.prog 11 #[.string (N j)] wr fun e w' => e = .returned (.string ⟨(Lib.toLowerA (N j).data.toList).toArray⟩) ∧ Below wr.heap.size wr w') := folded_any (N j) wr (HZ.out j hlj)
                  have hkd : (⟨(Lib.toLowerA (N j).data.toList).toArray⟩ : ByteArray).data.toList = fold (N j) := rfl
                  have hks := lower_size (N j)
                  obtain ⟨i, hL, hji⟩ := lastTo_ge N (fold (N j)) k2 j hlj rfl
                  obtain ⟨hik, hfi⟩ := lastTo_lt N _ k2 i hL
                  rw [← hkd] at hL
                  generalize (⟨(Lib.toLowerA (N j).data.toList).toArray⟩ : ByteArray) = ky at HFT hL hks hkd
                  have hkm : ky.size ≤ maxLen := by rw [hks]; exact HN.out j
                  have HLk : Hid (∀ u : World, u.ownsMap Tryd.prog 9 ptrElem m k2 (arch wc.heap.size N k2) → (Instr.lookup 26 (.map (some m)) (.string ky) true).run Tryd.prog u = .ok (.tuple #[.pointer (some ⟨wc.heap.size + 1 + i, 0, none⟩), .bool true]) u) := fun u hu => look_some hu hkm hL
                  have HSF : Hid (∀ u : World, Calls Tryd.prog 12 #[.string (N i), .string (N j)] u fun e w' => e = .returned (.bool true) ∧ ∃ n, w' = u.drewN n) := fun u => sameFold_true (N i) (N j) u (HN.out i) (HN.out j) hfi
                  have HCS : Hid (((cls N k2 (j + 1) : Nat) : Int) = z + if i = j then 1 else 0) := by
                    show ((cls N k2 (j + 1) : Nat) : Int) = _
                    rw [cls_step, HL.out]
                    have : isLast N k2 j = decide (i = j) := by
                      unfold isLast
                      rw [← hkd, hL]
                      by_cases e : i = j
                      · subst e; simp
                      · rw [decide_eq_false e]; rw [beq_eq_false_iff_ne]; intro x; injection x with x; exact e x
                    rw [this]
                    by_cases e : i = j <;> simp [e]
                  clear hL hkd hks hkm hfi
                  go_wp2_with fail
                  refine HFT.out.mono ?_
                  rintro e w3 ⟨rfl, hb3⟩
                  have hbx3 : Below w2.heap.size w2 w3 := hbx.trans (hb3.mono hbx.size)
                  have hown3 : w3.ownsMap Tryd.prog 9 ptrElem m k2 (arch wc.heap.size N k2) := ownsMap_below HAr.out.own hbx3
                  have hlk := HLk.out w3 hown3
                  have hlt3 : wc.heap.size + 1 + i < w2.heap.size := by
                    have h := HAr.out.name i hik
                    rcases Nat.lt_or_ge (wc.heap.size + 1 + i) w2.heap.size with h' | h'
                    · exact h'
                    · have : w2.heap[wc.heap.size + 1 + i]? = none := Array.getElem?_eq_none h'
                      simp [World.cell?, this] at h
                  have hc0 : w3.cell? ⟨wc.heap.size + 1 + i, 0, none⟩ = some (.string (N i)) := by
                    rw [hbx3.cell (p := ⟨wc.heap.size + 1 + i, 0, none⟩) hlt3]; exact HAr.out.name i hik
                  have hc16 : w3.cell? ⟨wc.heap.size + 1 + i, 16, none⟩ = some (.int .u64 (i : Int)) := by
                    rw [hbx3.cell (p := ⟨wc.heap.size + 1 + i, 16, none⟩) hlt3]; exact HAr.out.tag i hik
                  have hcx3 : w3.cell? ⟨w0.heap.size, j, none⟩ = some (.string (N j)) := by
                    rw [hbx3.cell (p := ⟨w0.heap.size, j, none⟩) (by show w0.heap.size < _; omega)]; exact HC2.out j hlj
                  have hci3 : w3.cell? ⟨w0.heap.size, i, none⟩ = some (.string (N i)) := by
                    rw [hbx3.cell (p := ⟨w0.heap.size, i, none⟩) (by show w0.heap.size < _; omega)]; exact HC2.out i hik
                  have hwr1 : IntKind.u64.wrap (j : Int) = j := by rw [IntKind.wrap_u64]; omega
                  have hwr2 : IntKind.u64.wrap (k2 : Int) = k2 := by rw [IntKind.wrap_u64]; omega
                  have hwr3 : IntKind.i64.wrap (i : Int) = i := by rw [IntKind.wrap_i64]; omega
                  have hii : (i : Int) < (k2 : Int) := by omega
                  have hji' : ¬ (i : Int) < (j : Int) := by omega
                  have hki : ¬ (k2 : Int) ≤ (i : Int) := by omega
                  clear hown3 HLk HFT hcx hlt3
                  go_wp2_with fail
                  go_quiet ((go_at_call 12; exact quiet_of_drew (HSF.out _)))
                  have hbq : Below w2.heap.size w2 (w3.drewN nq) := hbx3.trans ⟨rfl, rfl, rfl, Nat.le_refl _, fun _ _ => rfl⟩
                  generalize w3.drewN nq = wq at hbq ⊢
                  by_cases hij : i = j
                  · have hv : ((i : Int) == (j : Int)) = true := by rw [hij]; simp
                    have HCS2 : Hid (z + 1 = (cls N k2 (j + 1) : Nat)) := by have := HCS.out; rw [if_pos hij] at this; exact this.symm
                    clear hij HCS
                    go_wp2_with fail
                    go_roundw
                    case rel => exact ⟨j + 1, z + 1, by omega, by go_num, rfl, by omega, by omega, HCS2, hbq⟩
                    case measure => simp [intOf]; omega
                  · have hv : ((i : Int) == (j : Int)) = false := by rw [beq_eq_false_iff_ne]; omega
                    have HCS2 : Hid (z = (cls N k2 (j + 1) : Nat)) := by have := HCS.out; rw [if_neg hij, Int.add_zero] at this; exact this.symm
                    clear hij HCS
                    go_wp2_with fail
                    go_roundw
                    case rel => exact ⟨j + 1, z, by omega, by go_num, rfl, by omega, by omega, HCS2, hbq⟩
                    case measure => simp [intOf]; omega
                · obtain rfl : j = k2 := by omega
                  have hown : wr.ownsMap Tryd.prog 9 ptrElem m j (arch wc.heap.size N j) := ownsMap_below HAr.out.own hbx
                  have hlen := fun ty => hown.len Tryd.underlying26 ty
                  rw [size_cls] at hlen
                  have hz : ((cls N j j : Nat) : Int) = z := HL.out.symm
                  rw [hz] at hlen
                  clear hown hz
                  go_wp2_with fail
                  go_ret
                  exact ⟨by simp, hbr⟩
  · clear HAS HC HN HCL HNW
    go_enter Tryd.func4, Tryd.ntmps4
    go_wp2_with fail
    refine HB.out.mono ?_
    rintro e w0 ⟨⟨B, rfl⟩, rfl⟩
    cases B
    · go_wp2_with fail
      go_ret
      exact ⟨rfl, Below.refl _ _⟩
    · go_wp2_with fail
      go_ret
      exact ⟨rfl, Below.refl _ _⟩

set_option maxRecDepth 100000 in
set_option maxHeartbeats 4000000 in
theorem once_walk_zero (a : Option Addr) (cap : Nat) (w : World) (hcap : a = none → cap = 0) :
    Calls Tryd.prog 4 #[.slice a 0 cap] w fun e w' => e = .returned (.bool true) ∧ Below w.heap.size w w' := by
  have HB : Hid (Calls Tryd.prog 10 #[.slice a 0 cap] w fun e w' => SomeBool e ∧ w' = w) := bytesOnce_zero a cap w
  have HCL : Hid (Calls Tryd.prog 7 #[.slice a 0 cap] w fun e w' => (∃ a' c', e = .returned (.slice a' 0 c')) ∧ Below w.heap.size w w') := by
    cases a with
    | none =>
      obtain rfl := hcap rfl
      refine (clone_nil w).mono ?_
      rintro e w' ⟨rfl, rfl⟩
      exact ⟨⟨_, _, rfl⟩, Below.refl _ _⟩
    | some A =>
      refine (clone_empty A cap (fun _ => ByteArray.empty) w).mono ?_
      rintro e w' ⟨rfl, rfl⟩
      exact ⟨⟨_, _, rfl⟩, (Below.refl _ w).alloc (Nat.le_refl _) _⟩
  have HNW : Hid (∀ a c u, Calls Tryd.prog 8 #[.slice a 0 c] u fun e w' => ∃ m, e = .returned (.map (some m)) ∧ (∀ (N : Nat → ByteArray) F, w'.ownsMap Tryd.prog 9 ptrElem m 0 (arch F N 0)) ∧ Below u.heap.size u w') := fun a c u => zzNew_zero a c u
  clear hcap
  go_enter Tryd.func4, Tryd.ntmps4
  go_wp2_with fail
  refine HB.out.mono ?_
  rintro e w0 ⟨⟨B, rfl⟩, rfl⟩
  cases B
  · go_wp2_with fail
    go_ret
    exact ⟨rfl, Below.refl _ _⟩
  · go_wp2_with fail
    go_loop [3, 4] (fun z i => z = .int .i64 0 ∧ i = .int .i64 0) (fun _ _ => 0)
    case atStart => exact ⟨rfl, rfl⟩
    case round =>
      obtain ⟨rfl, rfl⟩ := hrel
      go_wp2_with fail
      go_loop [5] (fun i => i = .int .i64 0) (fun _ => 0)
      case atStart => rfl
      case round =>
        obtain rfl := hrel
        go_wp2_with fail
        refine HCL.out.mono ?_
        rintro e w1 ⟨⟨a', c', rfl⟩, hb1⟩
        go_wp2_with fail
        refine (HNW.out a' c' w1).mono ?_
        rintro e w2 ⟨m, rfl, hown, hb2⟩
        have hb3 : Below w0.heap.size w0 w2 := hb1.trans (hb2.mono hb1.size)
        have HO : Hid (∀ (N : Nat → ByteArray) F, w2.ownsMap Tryd.prog 9 ptrElem m 0 (arch F N 0)) := hown
        clear hown hb1 hb2
        go_wp2_with fail
        go_loop [7, 8] (fun l i => l = .int .i64 0 ∧ i = .int .i64 0) (fun _ _ => 0)
        case atStart => exact ⟨rfl, rfl⟩
        case round =>
          obtain ⟨rfl, rfl⟩ := hrel
          have hlen := fun ty => (HO.out (fun _ => ByteArray.empty) 0).len Tryd.underlying26 ty
          rw [size_cls] at hlen
          have hz : ((cls (fun _ => ByteArray.empty) 0 0 : Nat) : Int) = 0 := rfl
          rw [hz] at hlen
          clear hz
          go_wp2_with fail
          go_ret
          exact ⟨by simp, hb3⟩
end Go.Proofs.Qxb6604498aDoor
