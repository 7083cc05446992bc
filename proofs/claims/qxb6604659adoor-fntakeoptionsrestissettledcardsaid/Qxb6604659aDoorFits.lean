/-
  SEAT b6604659aD: cloneStrings, takeFits.
-/
import Derived.Test.Qxb6604659aDoorKnown
import Derived.Test.Qxb6604659aDoorSize
import Derived.Lib.SliceRun
namespace Go.Proofs.Qxb6604659aDoor
open Go Go.RowKit
set_option linter.unusedVariables false
set_option linter.unusedSimpArgs false

theorem info9 : (Tryd.prog.info? 9).map (fun i => (i.zero, i.size, i.bytes)) = some (some (.string ByteArray.empty), 1, 16) := by kernel_rfl
theorem make9 (n : Nat) (hn : n ≤ 1048576) (u : World) : (Instr.makeSlice 35 (.int .i64 (n : Int)) (.int .i64 (n : Int))).run Tryd.prog u = .ok (.slice (some ⟨u.heap.size, 0, none⟩) n n) (u.alloc (.cells (madeCells #[.string ByteArray.empty] n) 9)) := by
  obtain ⟨i, hi, h⟩ := Option.map_eq_some_iff.1 info9
  obtain ⟨hz, hs, hb⟩ : i.zero = some (.string ByteArray.empty) ∧ i.size = 1 ∧ i.bytes = 16 := by simpa using h
  have := run_make (P := Tryd.prog) u 35 9 i (.string ByteArray.empty) Tryd.underlying35 hi hz .i64 .i64 n n (by omega) (Int.le_refl _) (by rw [hb]; omega) (by omega)
  simpa [hs, Value.cells] using this

/-- the keys as a function of their place. -/
def nameCell (N : Nat → ByteArray) (i : Nat) : Value := .string (N i)
def cloned (w : World) (N : Nat → ByteArray) (n : Nat) : World := w.alloc (.cells (fillTo (.string ByteArray.empty) (nameCell N) n n) 9)
theorem cloned_cell (w : World) (N : Nat → ByteArray) (n i : Nat) (h : i < n) : (cloned w N n).cell? ⟨w.heap.size, i, none⟩ = some (.string (N i)) := by
  unfold cloned
  rw [World.cell?_alloc_at _ _ _ _ rfl, fill_get _ _ _ _ _ h, if_pos h]; rfl
theorem cloned_below (w : World) (N : Nat → ByteArray) (n : Nat) : Below w.heap.size w (cloned w N n) := (Below.refl _ w).alloc (Nat.le_refl _) _

set_option maxRecDepth 100000 in
set_option maxHeartbeats 1000000 in
theorem clone_cells (b off n cap : Nat) (N : Nat → ByteArray) (w : World) (hn : n ≤ 1048576) (hb : b < w.heap.size) (hc : ∀ i, i < n → w.cell? ⟨b, off + i, none⟩ = some (.string (N i))) :
    Calls Tryd.prog 11 #[.slice (some ⟨b, off, none⟩) n cap] w fun e w' => e = .returned (.slice (some ⟨w.heap.size, 0, none⟩) n n) ∧ w' = w.alloc (.cells (fillTo (.string ByteArray.empty) (nameCell N) n n) 9) := by
  have hmk := make9 n hn
  have HC : Hid (∀ i, i < n → w.cell? ⟨b, off + i, none⟩ = some (.string (N i))) := hc
  clear hc
  have heq := fun u => Lib.run_eql_slice_nil (P := Tryd.prog) u 35 9 (some ⟨b, off, none⟩) n cap 0 0 Tryd.underlying35
  go_enter Tryd.func11, Tryd.ntmps11
  go_wp2
  go_loopw [4] (fun i wx => ∃ k : Nat, k ≤ n ∧ i = .int .i64 k ∧ wx = w.alloc (.cells (fillTo (.string ByteArray.empty) (nameCell N) n k) 9)) (fun i _ => n - (intOf i).toNat)
  case atStart => exact ⟨0, Nat.zero_le _, rfl, by rw [fill_zero]⟩
  case round =>
    obtain ⟨k, hk, rfl, rfl⟩ := hrel
    clear hmk
    by_cases hlt : k < n
    · have hf := fill_get (.string ByteArray.empty) (nameCell N) n k k hlt
      have hcx := HC.out k hlt
      go_wp2
      go_roundw
      case rel =>
        refine ⟨k + 1, by omega, by go_num, ?_⟩
        rw [← fill_set _ _ _ k hlt]
        rfl
      case measure => simp [intOf]; omega
    · obtain rfl : k = n := by omega
      go_wp2
      go_ret
      exact ⟨rfl, rfl⟩

set_option maxRecDepth 100000 in
set_option maxHeartbeats 1000000 in
theorem clone_nil (w : World) :
    Calls Tryd.prog 11 #[.slice none 0 0] w fun e w' => e = .returned (.slice none 0 0) ∧ w' = w := by
  have heq := fun u => Lib.run_eql_slice_nil (P := Tryd.prog) u 35 9 none 0 0 0 0 Tryd.underlying35
  go_enter Tryd.func11, Tryd.ntmps11
  go_wp2
  go_ret
  exact ⟨rfl, rfl⟩

set_option maxRecDepth 100000 in
set_option maxHeartbeats 1000000 in
theorem clone_empty (A : Addr) (cap : Nat) (N : Nat → ByteArray) (w : World) :
    Calls Tryd.prog 11 #[.slice (some A) 0 cap] w fun e w' => e = .returned (.slice (some ⟨w.heap.size, 0, none⟩) 0 0) ∧ w' = w.alloc (.cells (fillTo (.string ByteArray.empty) (nameCell N) 0 0) 9) := by
  have hmk := fun u => (show (Instr.makeSlice 35 (.int .i64 0) (.int .i64 0)).run Tryd.prog u = .ok (.slice (some ⟨u.heap.size, 0, none⟩) 0 0) (u.alloc (.cells (madeCells #[.string ByteArray.empty] 0) 9)) from make9 0 (by omega) u)
  have heq := fun u => Lib.run_eql_slice_nil (P := Tryd.prog) u 35 9 (some A) 0 cap 0 0 Tryd.underlying35
  have hz : madeCells #[.string ByteArray.empty] 0 = fillTo (.string ByteArray.empty) (nameCell N) 0 0 := fill_zero _ _ _
  go_enter Tryd.func11, Tryd.ntmps11
  go_wp2
  go_loopw [4] (fun i wx => i = .int .i64 0 ∧ wx = w.alloc (.cells (fillTo (.string ByteArray.empty) (nameCell N) 0 0) 9)) (fun i _ => 0)
  case atStart => exact ⟨rfl, by simp only [hz]⟩
  case round =>
    obtain ⟨rfl, rfl⟩ := hrel
    go_wp2
    go_ret
    exact ⟨rfl, rfl⟩

theorem clone_any (v : Value) (n : Nat) (N : Nat → ByteArray) (w : World) (hn : n ≤ 1048576) (hv : SAt w v N n) :
    Calls Tryd.prog 11 #[v] w fun e w' => ∃ a c, e = .returned (.slice a n c) ∧ Hid (SAt w' (.slice a n c) N n ∧ Below w.heap.size w w') := by
  obtain ⟨a, c, rfl, h2, h3⟩ := hv
  by_cases hn0 : 0 < n
  · obtain ⟨b, off, rfl, hc⟩ := h3 hn0
    refine (clone_cells b off n c N w hn (cell_lt (hc 0 hn0)) hc).mono ?_
    rintro e w' ⟨rfl, rfl⟩
    exact ⟨_, _, rfl, ⟨_, _, rfl, (fun h => by cases h), fun _ => ⟨_, 0, rfl, fun i hi => by rw [Nat.zero_add]; exact cloned_cell w N n i hi⟩⟩, cloned_below w N n⟩
  · obtain rfl : n = 0 := by omega
    cases a with
    | none =>
      obtain ⟨_, rfl⟩ := h2 rfl
      refine (clone_nil w).mono ?_
      rintro e w' ⟨rfl, rfl⟩
      exact ⟨_, _, rfl, ⟨_, _, rfl, fun _ => ⟨rfl, rfl⟩, fun h => by omega⟩, Below.refl _ _⟩
    | some A =>
      refine (clone_empty A c N w).mono ?_
      rintro e w' ⟨rfl, rfl⟩
      exact ⟨_, _, rfl, ⟨_, _, rfl, (fun h => by cases h), fun h => by omega⟩, cloned_below w N 0⟩

/-- what takeFits says: some bool; where it is true, everything is small. -/
def FitsSays (n : Nat) (w : World) (v : Value) (N : Nat → ByteArray) (nk : Nat) (fk : ByteArray) (e : Ending) (w' : World) : Prop :=
  ∃ B : Bool, e = .returned (.bool B) ∧ (B = true → LF 1048576 w n v ∧ nk ≤ 4096 ∧ fk.size ≤ 1048576 ∧ ∀ i, i < nk → (N i).size ≤ 1048576) ∧ ∃ q, w' = w.drewN q

set_option maxRecDepth 100000 in
set_option maxHeartbeats 1000000 in
theorem fits_cells (n : Nat) (v : Value) (N : Nat → ByteArray) (nk : Nat) (fk : ByteArray) (b off cap : Nat) (w : World) (hv : LF maxLen w n v) (hnk : nk ≤ maxLen) (hfk : fk.size ≤ maxLen) (hN : ∀ i, i < nk → (N i).size ≤ maxLen)
    (hc : ∀ i, i < nk → w.cell? ⟨b, off + i, none⟩ = some (.string (N i))) :
    Calls Tryd.prog 10 #[v, .slice (some ⟨b, off, none⟩) nk cap, .string fk] w fun e w' => FitsSays n w v N nk fk e w' := by
  have HS : Hid (fk.size ≤ 1048576 → Calls Tryd.prog 6 #[v, .int .i64 fk.size] w fun e w' => SizeSays n w v fk.size e w') := fun h => lsize_any n v _ w hv (by omega) (by omega)
  have HC : Hid (∀ i, i < nk → w.cell? ⟨b, off + i, none⟩ = some (.string (N i))) := hc
  have HN : Hid (∀ i, i < nk → (N i).size ≤ maxLen) := hN
  obtain ⟨va, vl, vc, rfl⟩ := hv.slice
  clear hc hN hv
  unfold maxLen at hnk hfk
  by_cases h1 : 4096 < nk
  · go_enter Tryd.func10, Tryd.ntmps10
    go_wp2_with fail
    go_ret
    exact ⟨false, rfl, (fun h => by cases h), 0, rfl⟩
  by_cases h2 : 1048576 < fk.size
  · go_enter Tryd.func10, Tryd.ntmps10
    go_wp2_with fail
    go_ret
    exact ⟨false, rfl, (fun h => by cases h), 0, rfl⟩
  have HSS : Hid (Calls Tryd.prog 6 #[.slice va vl vc, .int .i64 fk.size] w fun e w' => SizeSays n w (.slice va vl vc) fk.size e w') := HS.out (by omega)
  clear HS
  go_enter Tryd.func10, Tryd.ntmps10
  go_wp2_with fail
  refine HSS.out.mono ?_
  rintro e wA ⟨r, rfl, hr0, hr1, hr2, hq⟩
  have HQ : Hid (∃ q, wA = w.drewN q) := hq
  have HR : Hid (r ≤ 1048576 → (fk.size : Int) ≤ r ∧ LF 1048576 w n (.slice va vl vc)) := hr2
  clear hq hr2
  by_cases h3 : 1048576 < r
  · go_wp2_with fail
    go_ret
    exact ⟨false, rfl, (fun h => by cases h), HQ.out⟩
  go_wp2_with fail
  go_loopw [7, 8] (fun z i wx => ∃ (k : Nat) (t : Int), k ≤ nk ∧ 0 ≤ t ∧ t ≤ 1048576 ∧ z = .int .i64 t ∧ i = .int .i64 k ∧ wx = wA ∧ Hid (∀ i, i < k → (N i).size ≤ 1048576)) (fun _ i _ => nk - (intOf i).toNat)
  case atStart => exact ⟨0, r, Nat.zero_le _, hr0, by omega, rfl, rfl, rfl, fun i hi => by omega⟩
  case round =>
    obtain ⟨k, t, hk, ht0, ht1, rfl, rfl, rfl, HL⟩ := hrel
    by_cases hlt : k < nk
    · have c0 : wr.cell? ⟨b, off + k, none⟩ = some (.string (N k)) := by
        obtain ⟨q, rfl⟩ := HQ.out
        exact cell_below (below_drewN w q) (HC.out k hlt)
      have hNk := HN.out k hlt
      unfold maxLen at hNk
      have i1 : (k : Int) < (nk : Int) := by omega
      by_cases h4 : 1048576 < (N k).size
      · go_wp2_with fail
        go_ret
        exact ⟨false, rfl, (fun h => by cases h), HQ.out⟩
      · by_cases h5 : 1048576 < t + (8 + ((N k).size : Int))
        · go_wp2_with fail
          go_ret
          exact ⟨false, rfl, (fun h => by cases h), HQ.out⟩
        · have HL2 : Hid (∀ i, i < k + 1 → (N i).size ≤ 1048576) := fun i hi => by
            by_cases e : i = k
            · subst e; omega
            · exact HL.out i (by omega)
          go_wp2_with fail
          go_roundw
          case rel => exact ⟨k + 1, t + (8 + ((N k).size : Int)), by omega, by omega, by omega, by go_num, by go_num, trivial, HL2⟩
          case measure => simp [intOf]; omega
    · obtain rfl : k = nk := by omega
      go_wp2_with fail
      go_ret
      exact ⟨true, rfl, fun _ => ⟨(HR.out (by omega)).2, by omega, by omega, HL.out⟩, HQ.out⟩

set_option maxRecDepth 100000 in
set_option maxHeartbeats 1000000 in
theorem fits_empty (n : Nat) (v : Value) (N : Nat → ByteArray) (fk : ByteArray) (a : Option Addr) (cap : Nat) (w : World) (hv : LF maxLen w n v) (hfk : fk.size ≤ maxLen) :
    Calls Tryd.prog 10 #[v, .slice a 0 cap, .string fk] w fun e w' => FitsSays n w v N 0 fk e w' := by
  have HS : Hid (fk.size ≤ 1048576 → Calls Tryd.prog 6 #[v, .int .i64 fk.size] w fun e w' => SizeSays n w v fk.size e w') := fun h => lsize_any n v _ w hv (by omega) (by omega)
  obtain ⟨va, vl, vc, rfl⟩ := hv.slice
  clear hv
  unfold maxLen at hfk
  by_cases h2 : 1048576 < fk.size
  · go_enter Tryd.func10, Tryd.ntmps10
    go_wp2_with fail
    go_ret
    exact ⟨false, rfl, (fun h => by cases h), 0, rfl⟩
  have HSS : Hid (Calls Tryd.prog 6 #[.slice va vl vc, .int .i64 fk.size] w fun e w' => SizeSays n w (.slice va vl vc) fk.size e w') := HS.out (by omega)
  clear HS
  go_enter Tryd.func10, Tryd.ntmps10
  go_wp2_with fail
  refine HSS.out.mono ?_
  rintro e wA ⟨r, rfl, hr0, hr1, hr2, hq⟩
  have HQ : Hid (∃ q, wA = w.drewN q) := hq
  have HR : Hid (r ≤ 1048576 → (fk.size : Int) ≤ r ∧ LF 1048576 w n (.slice va vl vc)) := hr2
  clear hq hr2
  by_cases h3 : 1048576 < r
  · go_wp2_with fail
    go_ret
    exact ⟨false, rfl, (fun h => by cases h), HQ.out⟩
  go_wp2_with fail
  go_loopw [7, 8] (fun z i wx => z = .int .i64 r ∧ i = .int .i64 0 ∧ wx = wA) (fun _ i _ => 0)
  case atStart => exact ⟨rfl, rfl, rfl⟩
  case round =>
    obtain ⟨rfl, rfl, rfl⟩ := hrel
    go_wp2_with fail
    go_ret
    exact ⟨true, rfl, fun _ => ⟨(HR.out (by omega)).2, by omega, by omega, fun i hi => by omega⟩, HQ.out⟩

theorem fits_any (n : Nat) (v : Value) (N : Nat → ByteArray) (nk : Nat) (kv : Value) (fk : ByteArray) (w : World) (hv : LF maxLen w n v) (hnk : nk ≤ maxLen) (hfk : fk.size ≤ maxLen) (hN : ∀ i, i < nk → (N i).size ≤ maxLen) (hk : SAt w kv N nk) :
    Calls Tryd.prog 10 #[v, kv, .string fk] w fun e w' => FitsSays n w v N nk fk e w' := by
  obtain ⟨a, c, rfl, h2, h3⟩ := hk
  by_cases hn0 : 0 < nk
  · obtain ⟨b, off, rfl, hc⟩ := h3 hn0
    exact fits_cells n v N nk fk b off c w hv hnk hfk hN hc
  · obtain rfl : nk = 0 := by omega
    exact fits_empty n v N fk a c w hv hfk
end Go.Proofs.Qxb6604659aDoor
