/-
  SEAT b6604498aD: the law FnNewArchiveKeyHoldsLastFoldedName, walked: a row of names that is not empty.
-/
import Derived.Test.Qxb6604498aDoorPlain
import Derived.Test.Qxb6604498aDoorW3
namespace Go.Proofs.Qxb6604498aDoor
open Go Go.RowKit Go.Maps
set_option linter.unusedVariables false
set_option linter.unusedSimpArgs false

theorem zero29 (u : World) : (zeroValue 29).run Tryd.prog u = .ok (.pointer none) u := by kernel_rfl
theorem ptrElem_nil {v : Value} {ps : List MemPlace} (h : ptrElem v = some (.nil, ps)) : v = .pointer none := by
  unfold ptrElem at h
  split at h
  · rfl
  · simp at h
  · cases h
theorem ptrElem_at {v : Value} {ps : List MemPlace} {b : Nat} (h : ptrElem v = some (.lit (.int .i64 (b : Int)), ps)) : v = .pointer (some ⟨b, 0, none⟩) := by
  unfold ptrElem at h
  split at h
  · simp at h
  · rename_i b'
    simp at h
    obtain ⟨h, _⟩ := h
    have : b' = b := by omega
    rw [this]
  · cases h

theorem look_none {u : World} {m n F : Nat} {N : Nat → ByteArray} {key : ByteArray} (hown : u.ownsMap Tryd.prog 9 ptrElem m n (arch F N n)) (hk : key.size ≤ maxLen) (h : lastTo N key.data.toList n = none) :
    (Instr.lookup 26 (.map (some m)) (.string key) true).run Tryd.prog u = .ok (.tuple #[.pointer none, .bool false]) u := by
  obtain ⟨v, ps, hrun, hv⟩ := hown.look_ok law Tryd.underlying26 (zero29 u) (zd := .nil) (zp := []) rfl (Go.WideMaps.keyOf_string_mk Tryd.underlying9 hk)
  rw [arch_has, h] at hrun
  rw [arch_at, h] at hv
  obtain rfl := ptrElem_nil hv
  exact hrun
theorem look_some {u : World} {m n F j : Nat} {N : Nat → ByteArray} {key : ByteArray} (hown : u.ownsMap Tryd.prog 9 ptrElem m n (arch F N n)) (hk : key.size ≤ maxLen) (h : lastTo N key.data.toList n = some j) :
    (Instr.lookup 26 (.map (some m)) (.string key) true).run Tryd.prog u = .ok (.tuple #[.pointer (some ⟨F + 1 + j, 0, none⟩), .bool true]) u := by
  obtain ⟨v, ps, hrun, hv⟩ := hown.look_ok law Tryd.underlying26 (zero29 u) (zd := .nil) (zp := []) rfl (Go.WideMaps.keyOf_string_mk Tryd.underlying9 hk)
  rw [arch_has, h] at hrun
  rw [arch_at, h] at hv
  obtain rfl := ptrElem_at hv
  exact hrun

/-- the law's variable 'last'. -/
def lastI : Option Nat → Int
  | none => -1
  | some i => i
theorem lastI_ge (N : Nat → ByteArray) (key : List UInt8) (k : Nat) : -1 ≤ lastI (lastTo N key k) ∧ lastI (lastTo N key k) < k := by
  cases h : lastTo N key k with
  | none => exact ⟨by decide, by show (-1 : Int) < _; omega⟩
  | some i =>
    have := (lastTo_lt N key k i h).1
    exact ⟨by show (-1 : Int) ≤ i; omega, by show (i : Int) < k; omega⟩
theorem lastI_hit (N : Nat → ByteArray) (key : List UInt8) (k : Nat) (h : fold (N k) = key) : lastI (lastTo N key (k + 1)) = k := by
  unfold lastTo; rw [if_pos h]; rfl
theorem lastI_miss (N : Nat → ByteArray) (key : List UInt8) (k : Nat) (h : ¬ fold (N k) = key) : lastI (lastTo N key (k + 1)) = lastI (lastTo N key k) := by
  conv => lhs; unfold lastTo
  rw [if_neg h]

def cloned (w : World) (N : Nat → ByteArray) (n : Nat) : World := w.alloc (.cells (fillTo (.string ByteArray.empty) (nameCell N) n n) 9)
theorem cloned_size (w : World) (N : Nat → ByteArray) (n : Nat) : (cloned w N n).heap.size = w.heap.size + 1 := by simp [cloned]
theorem cloned_cell (w : World) (N : Nat → ByteArray) (n i : Nat) (h : i < n) : (cloned w N n).cell? ⟨w.heap.size, i, none⟩ = some (.string (N i)) := by
  unfold cloned
  rw [World.cell?_alloc_at _ _ _ _ rfl, fill_get _ _ _ _ _ h, if_pos h]; rfl
theorem cloned_below (w : World) (N : Nat → ByteArray) (n : Nat) : Below w.heap.size w (cloned w N n) := (Below.refl _ w).alloc (Nat.le_refl _) _

set_option maxRecDepth 100000 in
set_option maxHeartbeats 4000000 in
theorem key_walk (b off n cap : Nat) (N : Nat → ByteArray) (key : ByteArray) (w : World) (hk : key.size ≤ maxLen) (hn : n ≤ maxLen) (hN : ∀ i, (N i).size ≤ maxLen) (hb : b < w.heap.size) (hc : ∀ i, i < n → w.cell? ⟨b, off + i, none⟩ = some (.string (N i))) :
    Calls Tryd.prog 3 #[.slice (some ⟨b, off, none⟩) n cap, .string key] w fun e w' => e = .returned (.bool true) ∧ Below w.heap.size w w' := by
  have HB : Hid (Calls Tryd.prog 5 #[.slice (some ⟨b, off, none⟩) n cap, .string key] w fun e w' => SomeBool e ∧ w' = w) := bytesKey_any b off n cap N key w hk hn hN hc
  have HAS : Hid (∀ i u, Calls Tryd.prog 6 #[.string (N i)] u fun e w' => e = .returned (.bool (asciiB (N i))) ∧ w' = u) := fun i u => isASCII_any (N i) u (hN i)
  have HC : Hid (∀ i, i < n → w.cell? ⟨b, off + i, none⟩ = some (.string (N i))) := hc
  have HN : Hid (∀ i, (N i).size ≤ maxLen) := hN
  have HK : Hid (key.size ≤ maxLen) := hk
  have HCL : Hid (n ≤ 65536 → Calls Tryd.prog 7 #[.slice (some ⟨b, off, none⟩) n cap] w fun e w' => e = .returned (.slice (some ⟨w.heap.size, 0, none⟩) n n) ∧ w' = cloned w N n) := fun h => clone_any b off n cap N w (by omega) hb hc
  have HNW : Hid (n ≤ 65536 → (∀ i, i < n → (N i).size ≤ 1048576) → (∀ i, i < n → asciiB (N i) = true) → Calls Tryd.prog 8 #[.slice (some ⟨w.heap.size, 0, none⟩) n n] (cloned w N n) fun e w' => ∃ m, e = .returned (.map (some m)) ∧ Archived (cloned w N n) w' N n m) :=
    fun h h1 h2 => zzNew_any w.heap.size n N (cloned w N n) h (by rw [cloned_size]; omega) h1 h2 (fun i hi => cloned_cell w N n i hi)
  clear hc hN
  unfold maxLen at hk hn
  by_cases h16 : n ≤ 65536 ∧ key.size ≤ 1048576 ∧ 16 * n + key.size ≤ 1048576
  · obtain ⟨h16, hk20, ht20⟩ := h16
    go_enter Tryd.func3, Tryd.ntmps3
    go_wp2_with fail
    refine HB.out.mono ?_
    rintro e w0 ⟨⟨B, rfl⟩, rfl⟩
    cases B
    · go_wp2_with fail
      go_ret
      exact ⟨rfl, Below.refl _ _⟩
    · go_wp2_with fail
      go_loop [5, 6] (fun z i => ∃ (k : Nat) (t : Int), k ≤ n ∧ 0 ≤ t ∧ t ≤ 1048576 ∧ z = .int .i64 t ∧ i = .int .i64 k ∧ Hid (∀ i, i < k → (N i).size ≤ 1048576)) (fun _ i => n - (intOf i).toNat)
      case atStart => exact ⟨0, 16 * n + key.size, Nat.zero_le _, by omega, by omega, rfl, rfl, fun i hi => by omega⟩
      case round =>
        obtain ⟨k, t, hk2, ht0, ht1, rfl, rfl, HZ⟩ := hrel
        by_cases hlt : k < n
        · have hcx := HC.out k hlt
          have hsz := HN.out k
          unfold maxLen at hsz
          by_cases hbig : (N k).size ≤ 1048576
          · have HZ2 : Hid (∀ i, i < k + 1 → (N i).size ≤ 1048576) := fun i hi => by
              by_cases e : i = k
              · subst e; exact hbig
              · exact HZ.out i (by omega)
            by_cases hsum : t + (N k).size ≤ 1048576
            · go_wp2_with fail
              go_round
              case rel => exact ⟨k + 1, t + (N k).size, by omega, by omega, by omega, rfl, by go_num, HZ2⟩
              case measure => simp [intOf]; omega
            · go_wp2_with fail
              go_ret
              exact ⟨rfl, Below.refl _ _⟩
          · go_wp2_with fail
            go_ret
            exact ⟨rfl, Below.refl _ _⟩
        · obtain rfl : k = n := by omega
          go_wp2_with fail
          go_loop [7] (fun i => ∃ k2 : Nat, k2 ≤ k ∧ i = .int .i64 k2 ∧ Hid (∀ i, i < k2 → asciiB (N i) = true)) (fun i => k - (intOf i).toNat)
          case atStart => exact ⟨0, Nat.zero_le _, rfl, fun i hi => by omega⟩
          case round =>
            obtain ⟨k2, hk3, rfl, HY⟩ := hrel
            by_cases hlt2 : k2 < k
            · have hcx := HC.out k2 hlt2
              cases hasc : asciiB (N k2)
              · have HQ : Hid (asciiB (N k2) = false) := hasc
                clear hasc
                go_wp2_with (go_at_call 6; refine (HAS.out k2 _).mono ?_; rw [HQ.out]; rintro e w1 ⟨rfl, rfl⟩)
                go_ret
                exact ⟨rfl, Below.refl _ _⟩
              · have HY2 : Hid (∀ i, i < k2 + 1 → asciiB (N i) = true) := fun i hi => by
                  by_cases e : i = k2
                  · subst e; exact hasc
                  · exact HY.out i (by omega)
                have HQ : Hid (asciiB (N k2) = true) := hasc
                clear hasc
                go_wp2_with (go_at_call 6; refine (HAS.out k2 _).mono ?_; rw [HQ.out]; rintro e w1 ⟨rfl, rfl⟩)
                go_round
                case rel => exact ⟨k2 + 1, by omega, by go_num, HY2⟩
                case measure => simp [intOf]; omega
            · obtain rfl : k2 = k := by omega
              go_wp2_with fail
              refine (HCL.out h16).mono ?_
              rintro e w1 ⟨rfl, rfl⟩
              go_wp2_with fail
              refine (HNW.out h16 HZ.out HY.out).mono ?_
              rintro e w2 ⟨m, rfl, hAr⟩
              have hcs := cloned_size w0 N k2
              have hcb := cloned_below w0 N k2
              have HCC : Hid (∀ i, i < k2 → (cloned w0 N k2).cell? ⟨w0.heap.size, i, none⟩ = some (.string (N i))) := fun i hi => cloned_cell w0 N k2 i hi
              generalize cloned w0 N k2 = wc at hcs hcb HCC hAr
              have HAr : Hid (Archived wc w2 N k2 m) := hAr
              have hwc : w0.heap.size < wc.heap.size := by omega
              have HC2 : Hid (∀ i, i < k2 → w2.cell? ⟨w0.heap.size, i, none⟩ = some (.string (N i))) := fun i hi => by
                rw [HAr.out.below.cell (p := ⟨w0.heap.size, i, none⟩) hwc]; exact HCC.out i hi
              have hbel : Below w0.heap.size w0 w2 := hcb.trans (HAr.out.below.mono (by omega))
              clear hAr HC HB HAS HCL HNW HCC hcs
              go_wp2_with fail
              go_loopw [9, 10] (fun l i wx => ∃ (j : Nat) (z : Int), j ≤ k2 ∧ i = .int .i64 j ∧ l = .int .i64 z ∧ -1 ≤ z ∧ z < j + 1 ∧ Hid (z = lastI (lastTo N key.data.toList j)) ∧ Hid (∃ q, wx = w2.drewN q)) (fun _ i _ => k2 - (intOf i).toNat)
              case atStart => exact ⟨0, -1, Nat.zero_le _, rfl, rfl, by omega, by omega, rfl, 0, rfl⟩
              case round =>
                obtain ⟨j, z, hj, rfl, rfl, hz1, hz2, HL, HW⟩ := hrel
                by_cases hlj : j < k2
                · have hcx : wr.cell? ⟨w0.heap.size, j, none⟩ = some (.string (N j)) := by
                    obtain ⟨q, hq⟩ := HW.out
                    rw [hq]; exact HC2.out j hlj
                  have HFT : Hid (Calls Tryd.prog 9 #[.string (N j), .string key] wr fun e w' => e = .returned (.bool (Lib.toLowerA (N j).data.toList == key.data.toList)) ∧ ∃ n, w' = wr.drewN n) := foldsTo_any (N j) key wr (HN.out j) HK.out
                  by_cases hfo : fold (N j) = key.data.toList
                  · have HQ : Hid ((Lib.toLowerA (N j).data.toList == key.data.toList) = true) := beq_iff_eq.2 hfo
                    have HL2 : Hid ((j : Int) = lastI (lastTo N key.data.toList (j + 1))) := (lastI_hit N _ j hfo).symm
                    clear hfo
                    go_wp2_with fail
                    refine HFT.out.mono ?_
                    rw [HQ.out]
                    rintro e w3 ⟨rfl, hq3⟩
                    have HW2 : Hid (∃ q, w3 = w2.drewN q) := by
                      obtain ⟨q3, rfl⟩ := hq3
                      exact drewN_more HW.out q3
                    clear hq3
                    go_wp2_with fail
                    go_roundw
                    case rel => exact ⟨j + 1, j, by omega, by go_num, rfl, by omega, by omega, HL2, HW2⟩
                    case measure => simp [intOf]; omega
                  · have HQ : Hid ((Lib.toLowerA (N j).data.toList == key.data.toList) = false) := beq_eq_false_iff_ne.2 hfo
                    have HL2 : Hid (z = lastI (lastTo N key.data.toList (j + 1))) := HL.out.trans (lastI_miss N _ j hfo).symm
                    clear hfo
                    go_wp2_with fail
                    refine HFT.out.mono ?_
                    rw [HQ.out]
                    rintro e w3 ⟨rfl, hq3⟩
                    have HW2 : Hid (∃ q, w3 = w2.drewN q) := by
                      obtain ⟨q3, rfl⟩ := hq3
                      exact drewN_more HW.out q3
                    clear hq3
                    go_wp2_with fail
                    go_roundw
                    case rel => exact ⟨j + 1, z, by omega, by go_num, rfl, by omega, by omega, HL2, HW2⟩
                    case measure => simp [intOf]; omega
                · obtain rfl : j = k2 := by omega
                  have hown : wr.ownsMap Tryd.prog 9 ptrElem m j (arch wc.heap.size N j) := by
                    obtain ⟨q, hq⟩ := HW.out
                    rw [hq]; exact HAr.out.own
                  have hbr : Below w0.heap.size w0 wr := by
                    obtain ⟨q, hq⟩ := HW.out
                    rw [hq]; exact hbel.trans ⟨rfl, rfl, rfl, Nat.le_refl _, fun _ _ => rfl⟩
                  cases hL : lastTo N key.data.toList j with
                  | none =>
                    have hlk := look_none hown HK.out hL
                    have hz : z = -1 := by rw [HL.out, hL]; rfl
                    subst hz
                    clear hown hL
                    go_wp2_with fail
                    go_ret
                    exact ⟨rfl, hbr⟩
                  | some i =>
                    have hlk := look_some hown HK.out hL
                    have hz : z = i := by rw [HL.out, hL]; rfl
                    subst hz
                    have hij := (lastTo_lt N _ j i hL).1
                    have hc0 : wr.cell? ⟨wc.heap.size + 1 + i, 0, none⟩ = some (.string (N i)) := by
                      obtain ⟨q, hq⟩ := HW.out
                      rw [hq]; exact HAr.out.name i hij
                    have hc16 : wr.cell? ⟨wc.heap.size + 1 + i, 16, none⟩ = some (.int .u64 (i : Int)) := by
                      obtain ⟨q, hq⟩ := HW.out
                      rw [hq]; exact HAr.out.tag i hij
                    have hcx : wr.cell? ⟨w0.heap.size, i, none⟩ = some (.string (N i)) := by
                      obtain ⟨q, hq⟩ := HW.out
                      rw [hq]; exact HC2.out i hij
                    have hwr : IntKind.u64.wrap (i : Int) = i := by rw [IntKind.wrap_u64]; omega
                    have hii : (i : Int) < (j : Int) := by omega
                    clear hown hL HL HW HC2 HAr HZ HY HN
                    go_wp2_with fail
                    go_quiet (fail)
                    have hbq : Below w0.heap.size w0 (wr.drewN nq) := hbr.trans ⟨rfl, rfl, rfl, Nat.le_refl _, fun _ _ => rfl⟩
                    generalize wr.drewN nq = wq at hbq ⊢
                    go_wp2_with fail
                    go_ret
                    exact ⟨rfl, hbq⟩
  · have hcase : 65536 < n ∨ (n ≤ 65536 ∧ 1048576 < key.size) ∨ (n ≤ 65536 ∧ key.size ≤ 1048576 ∧ 1048576 < 16 * n + key.size) := by omega
    clear h16 HAS HC HN HK HCL HNW
    rcases hcase with h1 | ⟨h1, h2⟩ | ⟨h1, h2, h3⟩
    all_goals
      go_enter Tryd.func3, Tryd.ntmps3
      go_wp2_with fail
      refine HB.out.mono ?_
      rintro e w0 ⟨⟨B, rfl⟩, rfl⟩
      cases B
      · go_wp2_with fail
        go_ret
        exact ⟨rfl, Below.refl _ _⟩
      · go_wp2_with fail
        go_ret
        exact ⟨rfl, Below.refl _ _⟩

theorem ownsMap_empty (w : World) (N : Nat → ByteArray) (F : Nat) : (w.alloc (.map #[] 0)).ownsMap Tryd.prog 9 ptrElem w.heap.size 0 (arch F N 0) := World.ownsMap_made _ _ _ _

theorem own_last (V w2 : World) (h : w2 = V.alloc (.map #[] 0)) : ∀ (N : Nat → ByteArray) F, w2.ownsMap Tryd.prog 9 ptrElem (w2.heap.size - 1) 0 (arch F N 0) := by
  subst h
  intro N F
  have e : (V.alloc (.map #[] 0)).heap.size - 1 = V.heap.size := by simp
  rw [e]
  exact ownsMap_empty V N F

set_option maxRecDepth 100000 in
set_option maxHeartbeats 1000000 in
theorem newArchive_zero (R F : Nat) (w : World) (hR : R < w.heap.size) (hr : w.cell? ⟨R, 1, none⟩ = some (.slice (some ⟨F, 0, none⟩) 0 0)) :
    Calls Tryd.prog 13 #[.pointer (some ⟨R, 0, none⟩)] w fun e w' => e = .returned (.map (some w.heap.size)) ∧ w' = w.alloc (.map #[] 0) := by
  have hmm := makeMap48
  go_enter Tryd.func13, Tryd.ntmps13
  go_wp2
  go_loopw [17] (fun i wx => i = .int .i64 0 ∧ wx = w.alloc (.map #[] 0)) (fun i _ => 0)
  case atStart => exact ⟨rfl, rfl⟩
  case round =>
    obtain ⟨rfl, rfl⟩ := hrel
    clear hmm
    go_wp2_with fail
    go_ret
    exact ⟨rfl, rfl⟩

set_option maxRecDepth 100000 in
set_option maxHeartbeats 1000000 in
theorem zzNew_zero (a : Option Addr) (cap : Nat) (w : World) :
    Calls Tryd.prog 8 #[.slice a 0 cap] w fun e w' => ∃ m, e = .returned (.map (some m)) ∧ (∀ (N : Nat → ByteArray) F, w'.ownsMap Tryd.prog 9 ptrElem m 0 (arch F N 0)) ∧ Below w.heap.size w w' := by
  have hmk := fun u => (show (Instr.makeSlice 47 (.int .i64 0) (.int .i64 0)).run Tryd.prog u = .ok (.slice (some ⟨u.heap.size, 0, none⟩) 0 0) (u.alloc (.cells (madeCells #[.pointer none] 0) 29)) from make29 0 (by omega) u)
  have HX : Hid (∀ (w : World) (R F : Nat) (hR : R < w.heap.size) (hr : w.cell? ⟨R, 1, none⟩ = some (.slice (some ⟨F, 0, none⟩) 0 0)), Calls Tryd.prog 13 #[.pointer (some ⟨R, 0, none⟩)] w fun e w' => e = .returned (.map (some w.heap.size)) ∧ w' = w.alloc (.map #[] 0)) := fun w R F h1 h2 => newArchive_zero R F w h1 h2
  go_enter Tryd.func8, Tryd.ntmps8
  go_wp2
  go_loopw [10] (fun i wx => i = .int .i64 0 ∧ wx = w.alloc (.cells (madeCells #[.pointer none] 0) 29)) (fun i _ => 0)
  case atStart => exact ⟨rfl, rfl⟩
  case round =>
    obtain ⟨rfl, rfl⟩ := hrel
    clear hmk
    go_wp2_with fail
    refine (HX.out _ _ w.heap.size (by simp) (by simp)).mono ?_
    rintro e w2 ⟨rfl, hw2⟩
    have hm := own_last _ _ hw2
    have hb : Below w.heap.size w w2 := by
      rw [hw2]
      exact (((Below.refl _ w).alloc (Nat.le_refl _) _).alloc (by simp) _).alloc (by simp; omega) _
    have hsz : w2.heap.size - 1 = w.heap.size + 1 + 1 := by rw [hw2]; simp
    clear hw2
    go_wp2_with fail
    go_ret
    exact ⟨w2.heap.size - 1, by rw [hsz]; simp, hm, hb⟩

set_option maxRecDepth 100000 in
set_option maxHeartbeats 4000000 in
theorem key_walk_zero (a : Option Addr) (cap : Nat) (key : ByteArray) (w : World) (hcap : a = none → cap = 0) (hk : key.size ≤ maxLen) :
    Calls Tryd.prog 3 #[.slice a 0 cap, .string key] w fun e w' => e = .returned (.bool true) ∧ Below w.heap.size w w' := by
  have HB : Hid (Calls Tryd.prog 5 #[.slice a 0 cap, .string key] w fun e w' => SomeBool e ∧ w' = w) := bytesKey_zero a cap key w hk
  have HK : Hid (key.size ≤ maxLen) := hk
  have HCL : Hid (Calls Tryd.prog 7 #[.slice a 0 cap] w fun e w' => (∃ a' c', e = .returned (.slice a' 0 c')) ∧ Below w.heap.size w w') := by
    cases a with
    | none =>
      obtain rfl := hcap rfl
      refine (clone_nil w).mono ?_
      rintro e w' ⟨rfl, rfl⟩
      exact ⟨⟨_, _, rfl⟩, Below.refl _ _⟩
    | some A =>
      refine (clone_empty A cap (fun _ => ByteArray.empty) w).mono ?_
      rintro e w' ⟨rfl, rfl⟩
      exact ⟨⟨_, _, rfl⟩, (Below.refl _ w).alloc (Nat.le_refl _) _⟩
  have HNW : Hid (∀ a c u, Calls Tryd.prog 8 #[.slice a 0 c] u fun e w' => ∃ m, e = .returned (.map (some m)) ∧ (∀ (N : Nat → ByteArray) F, w'.ownsMap Tryd.prog 9 ptrElem m 0 (arch F N 0)) ∧ Below u.heap.size u w') := fun a c u => zzNew_zero a c u
  clear hcap
  unfold maxLen at hk
  by_cases hk20 : key.size ≤ 1048576
  · go_enter Tryd.func3, Tryd.ntmps3
    go_wp2_with fail
    refine HB.out.mono ?_
    rintro e w0 ⟨⟨B, rfl⟩, rfl⟩
    cases B
    · go_wp2_with fail
      go_ret
      exact ⟨rfl, Below.refl _ _⟩
    · go_wp2_with fail
      go_loop [5, 6] (fun z i => z = .int .i64 key.size ∧ i = .int .i64 0) (fun _ _ => 0)
      case atStart => exact ⟨rfl, rfl⟩
      case round =>
        obtain ⟨rfl, rfl⟩ := hrel
        go_wp2_with fail
        go_loop [7] (fun i => i = .int .i64 0) (fun _ => 0)
        case atStart => rfl
        case round =>
          obtain rfl := hrel
          go_wp2_with fail
          refine HCL.out.mono ?_
          rintro e w1 ⟨⟨a', c', rfl⟩, hb1⟩
          go_wp2_with fail
          refine (HNW.out a' c' w1).mono ?_
          rintro e w2 ⟨m, rfl, hown, hb2⟩
          have hb3 : Below w0.heap.size w0 w2 := hb1.trans (hb2.mono hb1.size)
          have HO : Hid (∀ (N : Nat → ByteArray) F, w2.ownsMap Tryd.prog 9 ptrElem m 0 (arch F N 0)) := hown
          clear hown hb1 hb2
          go_wp2_with fail
          go_loop [9, 10] (fun l i => l = .int .i64 (-1) ∧ i = .int .i64 0) (fun _ _ => 0)
          case atStart => exact ⟨rfl, rfl⟩
          case round =>
            obtain ⟨rfl, rfl⟩ := hrel
            have hlk := look_none (HO.out (fun _ => ByteArray.empty) 0) HK.out rfl
            go_wp2_with fail
            go_ret
            exact ⟨rfl, hb3⟩
  · go_enter Tryd.func3, Tryd.ntmps3
    go_wp2_with fail
    refine HB.out.mono ?_
    rintro e w0 ⟨⟨B, rfl⟩, rfl⟩
    cases B
    · go_wp2_with fail
      go_ret
      exact ⟨rfl, Below.refl _ _⟩
    · go_wp2_with fail
      go_ret
      exact ⟨rfl, Below.refl _ _⟩
end Go.Proofs.Qxb6604498aDoor
