/-
  SEAT b6604498aD: ZZnewArchive, newArchive.
-/
import Derived.Test.Qxb6604498aDoorW2
import Derived.Test.Qxb6604498aDoorShelf
import Derived.Maps.OwnSet
namespace Go.Proofs.Qxb6604498aDoor
open Go Go.RowKit Go.Maps
set_option linter.unusedVariables false
set_option linter.unusedSimpArgs false

theorem info29 : (Tryd.prog.info? 29).map (fun i => (i.zero, i.size, i.bytes)) = some (some (.pointer none), 1, 8) := by kernel_rfl
theorem make29 (n : Nat) (hn : n ≤ 1048576) (u : World) : (Instr.makeSlice 47 (.int .i64 (n : Int)) (.int .i64 (n : Int))).run Tryd.prog u = .ok (.slice (some ⟨u.heap.size, 0, none⟩) n n) (u.alloc (.cells (madeCells #[.pointer none] n) 29)) := by
  obtain ⟨i, hi, h⟩ := Option.map_eq_some_iff.1 info29
  obtain ⟨hz, hs, hb⟩ : i.zero = some (.pointer none) ∧ i.size = 1 ∧ i.bytes = 8 := by simpa using h
  have := run_make (P := Tryd.prog) u 47 29 i (.pointer none) Tryd.underlying47 hi hz .i64 .i64 n n (by omega) (Int.le_refl _) (by rw [hb]; omega) (by omega)
  simpa [hs, Value.cells] using this

/-- a file's block: its name, its tag. -/
def fileCells (s : ByteArray) (i : Nat) : Array Value := #[.string s, .string ByteArray.empty, .bool false, .int .u16 0, .int .u16 0, .int .u16 0, .int .u16 0, .int .u64 0, .int .i64 0, .pointer none, .int .u16 0, .int .u16 0, .int .u32 0, .int .u32 0, .int .u32 0, .int .u64 0, .int .u64 i, .slice none 0 0, .int .u32 0, .pointer none, .nilIface, .int .i64 0]

/-- after k rounds of ZZnewArchive: the slice of files in block F = the heap's size at the start, each file a block of its own behind it. -/
structure Files (w wr : World) (N : Nat → ByteArray) (n k : Nat) : Prop where
  size : wr.heap.size = w.heap.size + 1 + k
  below : Below w.heap.size w wr
  cell : ∀ i, i < n → wr.cell? ⟨w.heap.size, i, none⟩ = some (if i < k then .pointer (some ⟨w.heap.size + 1 + i, 0, none⟩) else .pointer none)
  free : ∀ i, i < n → wr.frozen? ⟨w.heap.size, i, none⟩ = false
  name : ∀ i, i < k → wr.cell? ⟨w.heap.size + 1 + i, 0, none⟩ = some (.string (N i))
  tag : ∀ i, i < k → wr.cell? ⟨w.heap.size + 1 + i, 16, none⟩ = some (.int .u64 (i : Int))

theorem Files.start (w : World) (N : Nat → ByteArray) (n : Nat) : Files w (w.alloc (.cells (madeCells #[.pointer none] n) 29)) N n 0 where
  size := by simp
  below := (Below.refl _ w).alloc (Nat.le_refl _) _
  cell := fun i hi => by
    have : (madeCells #[.pointer none] n)[i]? = some (.pointer none) := by simp [madeCells, hi, Nat.mod_one]
    simp [this]
  free := fun i hi => by simp
  name := fun i hi => by omega
  tag := fun i hi => by omega

theorem Files.step {w wr : World} {N : Nat → ByteArray} {n k : Nat} (h : Files w wr N n k) (hk : k < n) :
    Files w ((wr.setCell ⟨w.heap.size, k, none⟩ (.pointer (some ⟨wr.heap.size, 0, none⟩))).alloc (.cells (fileCells (N k) k) 44)) N n (k + 1) := by
  have hs := h.size
  have hss : (wr.setCell ⟨w.heap.size, k, none⟩ (.pointer (some ⟨wr.heap.size, 0, none⟩))).heap.size = wr.heap.size := by simp
  have hold : ∀ (a : Addr), a.block < wr.heap.size → ∀ o, ((wr.setCell ⟨w.heap.size, k, none⟩ (.pointer (some ⟨wr.heap.size, 0, none⟩))).alloc o).cell? a = (wr.setCell ⟨w.heap.size, k, none⟩ (.pointer (some ⟨wr.heap.size, 0, none⟩))).cell? a := by
    intro a ha o
    exact ((Below.refl _ (wr.setCell ⟨w.heap.size, k, none⟩ (.pointer (some ⟨wr.heap.size, 0, none⟩)))).alloc (Nat.le_refl _) o).cell (p := a) (by rw [hss]; exact ha)
  have holdf : ∀ (a : Addr), a.block < wr.heap.size → ∀ o, ((wr.setCell ⟨w.heap.size, k, none⟩ (.pointer (some ⟨wr.heap.size, 0, none⟩))).alloc o).frozen? a = (wr.setCell ⟨w.heap.size, k, none⟩ (.pointer (some ⟨wr.heap.size, 0, none⟩))).frozen? a := by
    intro a ha o
    exact ((Below.refl _ (wr.setCell ⟨w.heap.size, k, none⟩ (.pointer (some ⟨wr.heap.size, 0, none⟩)))).alloc (Nat.le_refl _) o).frozen (p := a) (by rw [hss]; exact ha)
  refine ⟨by simp; omega, (h.below.setCell (Nat.le_refl _) _).alloc (by rw [hss]; omega) _, ?_, ?_, ?_, ?_⟩
  · intro i hi
    rw [hold _ (by show w.heap.size < _; omega)]
    by_cases e : i = k
    · subst e
      rw [if_pos (by omega), World.cell?_setCell_same _ _ _ (h.cell i hi), hs]
    · rw [World.cell?_setCell_other _ _ _ _ (by intro x; injection x with _ x _; exact e x.symm), h.cell i hi]
      by_cases hl : i < k
      · rw [if_pos hl, if_pos (by omega)]
      · rw [if_neg hl, if_neg (by omega)]
  · intro i hi
    rw [holdf _ (by show w.heap.size < _; omega), World.frozen?_setCell]
    exact h.free i hi
  · intro i hi
    by_cases e : i = k
    · subst e
      rw [World.cell?_alloc_at _ _ _ _ (by rw [hss, hs])]
      rfl
    · rw [hold _ (by show w.heap.size + 1 + i < _; omega), World.cell?_setCell_other _ _ _ _ (by intro x; injection x with x _ _; omega)]
      exact h.name i (by omega)
  · intro i hi
    by_cases e : i = k
    · subst e
      rw [World.cell?_alloc_at _ _ _ _ (by rw [hss, hs])]
      rfl
    · rw [hold _ (by show w.heap.size + 1 + i < _; omega), World.cell?_setCell_other _ _ _ _ (by intro x; injection x with x _ _; omega)]
      exact h.tag i (by omega)

/-! ### the map -/
/-- a pointer to a file's block, as a ghost number. -/
def ptrElem : Value → Option (DataW Unit × List MemPlace)
  | .pointer none => some (.nil, [])
  | .pointer (some ⟨b, 0, none⟩) => some (.lit (.int .i64 (b : Int)), [])
  | _ => none
def keyLit (s : ByteArray) : Lit := .string (Lib.toLowerA s.data.toList)
/-- the archive after k files, F the block of the files' slice. -/
def arch (F : Nat) (N : Nat → ByteArray) (k : Nat) : DataW Unit := (List.range k).foldl (fun m i => m.put (keyLit (N i)) (.lit (.int .i64 ((F + 1 + i : Nat) : Int)))) (.map [])
theorem arch_step (F : Nat) (N : Nat → ByteArray) (k : Nat) : arch F N (k + 1) = (arch F N k).put (keyLit (N k)) (.lit (.int .i64 ((F + 1 + k : Nat) : Int))) := by
  unfold arch; rw [List.range_succ, List.foldl_append]; rfl

theorem lower_size (s : ByteArray) : (⟨(Lib.toLowerA s.data.toList).toArray⟩ : ByteArray).size = s.size := by
  show ((Lib.toLowerA s.data.toList).toArray).size = s.data.size
  rw [List.size_toArray]; unfold Lib.toLowerA; rw [List.length_map, Array.length_toList]
theorem law : Keyed Tryd.prog 9 := string_keyed Tryd.underlying9
theorem makeMap48 (x : Int) (u : World) : (Instr.makeMap 48 (some (.int .i64 x))).run Tryd.prog u = .ok (.map (some u.heap.size)) (u.alloc (.map #[] 0)) := by
  simp [Instr.makeMap, run_underlying Tryd.underlying48, asInt, asIntOf]
theorem ownsMap_below {w w' : World} {b n : Nat} {D : DataW Unit} (h : w.ownsMap Tryd.prog 9 ptrElem b n D) (hb : Below w.heap.size w w') : w'.ownsMap Tryd.prog 9 ptrElem b n D := by
  have hlt := h.lt
  obtain ⟨es, clock, hm, r⟩ := h
  exact ⟨es, clock, (hb.block b hlt).trans hm, r⟩

set_option maxRecDepth 100000 in
set_option maxHeartbeats 1000000 in
theorem newArchive_any (R F n : Nat) (N : Nat → ByteArray) (w : World) (hn : n ≤ 65536) (hR : R < w.heap.size) (hF : F + 1 + n ≤ w.heap.size) (hN : ∀ i, i < n → (N i).size ≤ 1048576) (hA : ∀ i, i < n → asciiB (N i) = true)
    (hr : w.cell? ⟨R, 1, none⟩ = some (.slice (some ⟨F, 0, none⟩) n n))
    (hf : ∀ i, i < n → w.cell? ⟨F, i, none⟩ = some (.pointer (some ⟨F + 1 + i, 0, none⟩))) (hs : ∀ i, i < n → w.cell? ⟨F + 1 + i, 0, none⟩ = some (.string (N i))) :
    Calls Tryd.prog 13 #[.pointer (some ⟨R, 0, none⟩)] w fun e w' => e = .returned (.map (some w.heap.size)) ∧ w'.ownsMap Tryd.prog 9 ptrElem w.heap.size n (arch F N n) ∧ Below w.heap.size w w' := by
  have hmm := makeMap48
  have HF : Hid (∀ i, i < n → w.cell? ⟨F, i, none⟩ = some (.pointer (some ⟨F + 1 + i, 0, none⟩))) := hf
  have HS : Hid (∀ i, i < n → w.cell? ⟨F + 1 + i, 0, none⟩ = some (.string (N i))) := hs
  have HN : Hid (∀ i, i < n → (N i).size ≤ 1048576) := hN
  have HA : Hid (∀ i, i < n → asciiB (N i) = true) := hA
  clear hf hs hN hA
  go_enter Tryd.func13, Tryd.ntmps13
  go_wp2
  go_loopw [17] (fun i wx => ∃ k : Nat, k ≤ n ∧ i = .int .i64 k ∧ wx.ownsMap Tryd.prog 9 ptrElem w.heap.size k (arch F N k) ∧ Below w.heap.size w wx) (fun i _ => n - (intOf i).toNat)
  case atStart => exact ⟨0, Nat.zero_le _, rfl, World.ownsMap_made _ _ _ _, (Below.refl _ w).alloc (Nat.le_refl _) _⟩
  case round =>
    obtain ⟨k, hk, rfl, hown, hnx⟩ := hrel
    clear hmm
    by_cases hlt : k < n
    · have hc1 : wr.cell? ⟨F, k, none⟩ = some (.pointer (some ⟨F + 1 + k, 0, none⟩)) := by rw [hnx.cell (p := ⟨F, k, none⟩) (by show F < _; omega)]; exact HF.out k hlt
      have hc2 : wr.cell? ⟨F + 1 + k, 0, none⟩ = some (.string (N k)) := by rw [hnx.cell (p := ⟨F + 1 + k, 0, none⟩) (by show F + 1 + k < _; omega)]; exact HS.out k hlt
      have hNk := HN.out k hlt
      have hAk : ∀ (j : Nat) (b : UInt8), (N k).data.toList[j]? = some b → b.toNat < 128 := by
        intro j b hj
        have := List.all_eq_true.1 (HA.out k hlt) b (List.mem_of_getElem? hj)
        simpa using this
      have cT := Tryd.strings_ToLower_ascii (N k) wr (by omega) hAk
      have hkey : keyOf Tryd.prog 9 (.string ⟨(Lib.toLowerA (N k).data.toList).toArray⟩) = some (keyLit (N k)) := by
        have := Go.WideMaps.keyOf_string_mk (P := Tryd.prog) (k := 9) (s := ⟨(Lib.toLowerA (N k).data.toList).toArray⟩) Tryd.underlying9 (by rw [lower_size]; unfold maxLen; omega)
        simpa [keyLit] using this
      have HK : Hid (keyOf Tryd.prog 9 (.string ⟨(Lib.toLowerA (N k).data.toList).toArray⟩) = some (keyLit (N k))) := hkey
      have HT : Hid (Calls Tryd.prog 15 #[.string (N k)] wr fun e w' => e = .returned (.string ⟨(Lib.toLowerA (N k).data.toList).toArray⟩) ∧ Below wr.heap.size wr w') := cT
      clear hkey cT hAk
      generalize (⟨(Lib.toLowerA (N k).data.toList).toArray⟩ : ByteArray) = ky at HK HT
      have HO : Hid (wr.ownsMap Tryd.prog 9 ptrElem w.heap.size k (arch F N k)) := hown
      clear hown
      go_wp2_with fail
      refine HT.out.mono ?_
      rintro e w2 ⟨rfl, hb2⟩
      have ho2 : Hid (w2.ownsMap Tryd.prog 9 ptrElem w.heap.size k (arch F N k)) := ownsMap_below HO.out hb2
      have hn2 : Below w.heap.size w w2 := hnx.trans (hb2.mono hnx.size)
      go_wp2_with (at_mapUpdate; refine wpList_mapUpdate_own _ rfl _ _ _ 48 rfl 9 29 law Tryd.underlying48 _ w.heap.size k _ rfl ho2.out (by unfold maxLen; omega) _ _ _ rfl rfl HK.out (.lit (.int .i64 ((F + 1 + k : Nat) : Int))) [] rfl ?_; intro w3 ho3 hg3)
      go_roundw
      case rel => exact ⟨k + 1, by omega, by go_num, by rw [arch_step]; exact ho3, hn2.grown hg3 hn2.size (fun j hj => by cases hj; exact Nat.le_refl _)⟩
      case measure => simp [intOf]; omega
    · go_wp2_with fail
      obtain rfl : k = n := by omega
      go_ret
      exact ⟨rfl, hown, hnx⟩

/-- what ZZnewArchive leaves behind: the map, and each file's name and tag. F: the block of the files' slice. -/
structure Archived (w w' : World) (N : Nat → ByteArray) (n m : Nat) : Prop where
  own : w'.ownsMap Tryd.prog 9 ptrElem m n (arch w.heap.size N n)
  below : Below w.heap.size w w'
  name : ∀ i, i < n → w'.cell? ⟨w.heap.size + 1 + i, 0, none⟩ = some (.string (N i))
  tag : ∀ i, i < n → w'.cell? ⟨w.heap.size + 1 + i, 16, none⟩ = some (.int .u64 (i : Int))

def readerCells (F n : Nat) : Array Value := #[.nilIface, .slice (some ⟨F, 0, none⟩) n n, .string ByteArray.empty, .map none, .int .i64 0, .int .u32 0, .int .i32 0, .int .u32 0, .slice none 0 0]

theorem newArchive_files (n : Nat) (N : Nat → ByteArray) (w wr : World) (hn : n ≤ 65536) (hN : ∀ i, i < n → (N i).size ≤ 1048576) (hA : ∀ i, i < n → asciiB (N i) = true) (HF : Files w wr N n n) :
    Calls Tryd.prog 13 #[.pointer (some ⟨wr.heap.size, 0, none⟩)] (wr.alloc (.cells (readerCells w.heap.size n) 64)) fun e w' => ∃ m, e = .returned (.map (some m)) ∧ Archived w w' N n m := by
  have hsz := HF.size
  have hold : ∀ (a : Addr), a.block < wr.heap.size → (wr.alloc (.cells (readerCells w.heap.size n) 64)).cell? a = wr.cell? a := fun a ha => World.cell?_alloc_lt _ _ _ ha
  refine (newArchive_any wr.heap.size w.heap.size n N (wr.alloc (.cells (readerCells w.heap.size n) 64)) hn (by simp) (by simp; omega) hN hA ?_ ?_ ?_).mono ?_
  · rw [World.cell?_alloc_at _ _ _ _ rfl]; rfl
  · intro i hi
    rw [hold _ (by show w.heap.size < _; omega), HF.cell i hi, if_pos hi]
  · intro i hi
    rw [hold _ (by show w.heap.size + 1 + i < _; omega)]
    exact HF.name i hi
  · rintro e w' ⟨rfl, hown, hb⟩
    have hs2 : (wr.alloc (.cells (readerCells w.heap.size n) 64)).heap.size = wr.heap.size + 1 := by simp
    refine ⟨_, rfl, hown, ?_, ?_, ?_⟩
    · exact (HF.below.alloc (by omega) _).trans (hb.mono (by rw [hs2]; omega))
    · intro i hi
      rw [hb.cell (p := ⟨w.heap.size + 1 + i, 0, none⟩) (by show w.heap.size + 1 + i < _; rw [hs2]; omega), hold _ (by show w.heap.size + 1 + i < _; omega)]
      exact HF.name i hi
    · intro i hi
      rw [hb.cell (p := ⟨w.heap.size + 1 + i, 16, none⟩) (by show w.heap.size + 1 + i < _; rw [hs2]; omega), hold _ (by show w.heap.size + 1 + i < _; omega)]
      exact HF.tag i hi

set_option maxRecDepth 100000 in
set_option maxHeartbeats 1000000 in
theorem zzNew_any (b n : Nat) (N : Nat → ByteArray) (w : World) (hn : n ≤ 65536) (hb : b < w.heap.size) (hN : ∀ i, i < n → (N i).size ≤ 1048576) (hA : ∀ i, i < n → asciiB (N i) = true) (hc : ∀ i, i < n → w.cell? ⟨b, i, none⟩ = some (.string (N i))) :
    Calls Tryd.prog 8 #[.slice (some ⟨b, 0, none⟩) n n] w fun e w' => ∃ m, e = .returned (.map (some m)) ∧ Archived w w' N n m := by
  have hmk := make29 n (by omega)
  have HC : Hid (∀ i, i < n → w.cell? ⟨b, i, none⟩ = some (.string (N i))) := hc
  have HX : Hid (∀ wr, Files w wr N n n → Calls Tryd.prog 13 #[.pointer (some ⟨wr.heap.size, 0, none⟩)] (wr.alloc (.cells (readerCells w.heap.size n) 64)) fun e w' => ∃ m, e = .returned (.map (some m)) ∧ Archived w w' N n m) := fun wr h => newArchive_files n N w wr hn hN hA h
  clear hc hN hA
  go_enter Tryd.func8, Tryd.ntmps8
  go_wp2
  go_loopw [10] (fun i wx => ∃ k : Nat, k ≤ n ∧ i = .int .i64 k ∧ Files w wx N n k) (fun i _ => n - (intOf i).toNat)
  case atStart => exact ⟨0, Nat.zero_le _, rfl, Files.start w N n⟩
  case round =>
    obtain ⟨k, hk, rfl, HF⟩ := hrel
    clear hmk
    by_cases hlt : k < n
    · have hcx : wr.cell? ⟨b, k, none⟩ = some (.string (N k)) := by rw [HF.below.cell (p := ⟨b, k, none⟩) hb]; exact HC.out k hlt
      have hfx : wr.cell? ⟨w.heap.size, k, none⟩ = some (.pointer none) := by rw [HF.cell k hlt, if_neg (by omega)]
      have hff := HF.free k hlt
      have hlt2 : w.heap.size < wr.heap.size := by rw [HF.size]; omega
      have HS : Hid (Files w ((wr.setCell ⟨w.heap.size, k, none⟩ (.pointer (some ⟨wr.heap.size, 0, none⟩))).alloc (.cells (fileCells (N k) k) 44)) N n (k + 1)) := HF.step hlt
      go_wp2_with fail
      go_roundw
      case rel => exact ⟨k + 1, by omega, by go_num, HS⟩
      case measure => simp [intOf]; omega
    · obtain rfl : k = n := by omega
      go_wp2_with fail
      refine (HX.out wr HF).mono ?_
      rintro e w2 ⟨m, rfl, hA⟩
      go_wp2_with fail
      go_ret
      exact ⟨m, rfl, hA⟩
end Go.Proofs.Qxb6604498aDoor
