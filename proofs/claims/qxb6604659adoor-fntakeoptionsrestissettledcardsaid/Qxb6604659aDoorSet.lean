/-
  SEAT b6604659aD: ZZsetters: the map of setters; the two setters.
-/
import Derived.Test.Qxb6604659aDoorFits
import Derived.Maps.OwnSet
namespace Go.Proofs.Qxb6604659aDoor
open Go Go.RowKit Go.Maps
set_option linter.unusedVariables false
set_option linter.unusedSimpArgs false

/-- a setter, as a ghost number: the function's. -/
def fnElem : Value → Option (DataW Unit × List MemPlace)
  | .nilFunc => some (.nil, [])
  | .func (.func g) a b => if a = #[] ∧ b = #[] then some (.lit (.int .i64 (g : Int)), []) else none
  | _ => none
theorem fnElem_nil {v : Value} {ps : List MemPlace} (h : fnElem v = some (.nil, ps)) : v = .nilFunc := by
  unfold fnElem at h
  split at h
  · rfl
  · split at h <;> simp at h
  · cases h
theorem fnElem_at {v : Value} {ps : List MemPlace} {g : Nat} (h : fnElem v = some (.lit (.int .i64 (g : Int)), ps)) : v = .func (.func g) #[] #[] := by
  unfold fnElem at h
  split at h
  · simp at h
  · rename_i g' a b
    split at h
    · rename_i hab
      obtain ⟨rfl, rfl⟩ := hab
      simp at h
      obtain ⟨h, _⟩ := h
      first
        | rw [h]
        | rw [Int.ofNat.inj h]
    · cases h
  · cases h

def keyLit (s : ByteArray) : Lit := .string s.data.toList
/-- the setters for the first k keys. -/
def setMap (N : Nat → ByteArray) (k : Nat) : DataW Unit := (List.range k).foldl (fun m i => m.put (keyLit (N i)) (.lit (.int .i64 ((19 : Nat) : Int)))) (.map [])
theorem setMap_step (N : Nat → ByteArray) (k : Nat) : setMap N (k + 1) = (setMap N k).put (keyLit (N k)) (.lit (.int .i64 ((19 : Nat) : Int))) := by
  unfold setMap; rw [List.range_succ, List.foldl_append]; rfl
def setAll (N : Nat → ByteArray) (n : Nat) (fk : ByteArray) (fail : Bool) : DataW Unit := if fail then (setMap N n).put (keyLit fk) (.lit (.int .i64 ((20 : Nat) : Int))) else setMap N n

def hitL (l : List UInt8) (N : Nat → ByteArray) (n : Nat) : Bool := (List.range n).any fun i => l == (N i).data.toList
theorem hitL_step (l : List UInt8) (N : Nat → ByteArray) (n : Nat) : hitL l N (n + 1) = (hitL l N n || l == (N n).data.toList) := by
  unfold hitL; rw [List.range_succ, List.any_append]; simp
theorem hasKey_hitL (s : ByteArray) (N : Nat → ByteArray) (n : Nat) : hasKey s N n = hitL (canon s.data.toList) N n := rfl

theorem setMap_isMap (N : Nat → ByteArray) : ∀ k, IsMap (setMap N k)
  | 0 => isMap_empty
  | k + 1 => by rw [setMap_step]; exact (setMap_isMap N k).put _ _
theorem setMap_has (N : Nat → ByteArray) (l : List UInt8) : ∀ k, Maps.has (setMap N k) (.string l) = hitL l N k
  | 0 => rfl
  | k + 1 => by
    rw [setMap_step, hitL_step]
    by_cases h : l = (N k).data.toList
    · have : keyLit (N k) = .string l := by unfold keyLit; rw [← h]
      rw [this, has_put_same (k := .string l) (setMap_isMap N k) (show WideAt.IsKeyLit (.string l) from trivial), beq_iff_eq.2 h, Bool.or_true]
    · rw [has_put_other (by unfold keyLit; intro e; injection e with e; exact h e), setMap_has N l k, beq_eq_false_iff_ne.2 h, Bool.or_false]
def fnAt : Option Nat → DataW Unit
  | none => .nil
  | some g => .lit (.int .i64 (g : Int))
theorem setMap_at (N : Nat → ByteArray) (l : List UInt8) : ∀ k, (setMap N k).atKey (.string l) .nil = fnAt (if hitL l N k then some 19 else none)
  | 0 => rfl
  | k + 1 => by
    rw [setMap_step, hitL_step]
    by_cases h : l = (N k).data.toList
    · have : keyLit (N k) = .string l := by unfold keyLit; rw [← h]
      rw [this, atKey_put_same (k := .string l) (setMap_isMap N k) (show WideAt.IsKeyLit (.string l) from trivial), beq_iff_eq.2 h, Bool.or_true, if_pos rfl]; rfl
    · rw [atKey_put_other (by unfold keyLit; intro e; injection e with e; exact h e), setMap_at N l k, beq_eq_false_iff_ne.2 h, Bool.or_false]

/-- the setter under a text's key. -/
def setter (s : ByteArray) (N : Nat → ByteArray) (n : Nat) (fk : ByteArray) (fail : Bool) : Option Nat := if fail && isKey s fk then some 20 else if hasKey s N n then some 19 else none
theorem setAll_has (s : ByteArray) (N : Nat → ByteArray) (n : Nat) (fk : ByteArray) (fail : Bool) : Maps.has (setAll N n fk fail) (.string (canon s.data.toList)) = (setter s N n fk fail).isSome := by
  unfold setAll setter
  rw [hasKey_hitL]
  cases fail with
  | false =>
    rw [if_neg (by simp), Bool.false_and, if_neg (by simp), setMap_has]
    cases hitL (canon s.data.toList) N n <;> rfl
  | true =>
    rw [if_pos rfl, Bool.true_and]
    by_cases h : canon s.data.toList = fk.data.toList
    · have hk : isKey s fk = true := beq_iff_eq.2 h
      have : keyLit fk = .string (canon s.data.toList) := by unfold keyLit; rw [← h]
      rw [hk, if_pos rfl, this, has_put_same (k := .string _) (setMap_isMap N n) (show WideAt.IsKeyLit (.string _) from trivial)]; rfl
    · have hk : isKey s fk = false := beq_eq_false_iff_ne.2 h
      rw [hk, if_neg (by simp), has_put_other (by unfold keyLit; intro e; injection e with e; exact h e), setMap_has]
      cases hitL (canon s.data.toList) N n <;> rfl
theorem setAll_at (s : ByteArray) (N : Nat → ByteArray) (n : Nat) (fk : ByteArray) (fail : Bool) : (setAll N n fk fail).atKey (.string (canon s.data.toList)) .nil = fnAt (setter s N n fk fail) := by
  unfold setAll setter
  rw [hasKey_hitL]
  cases fail with
  | false => rw [if_neg (by simp), Bool.false_and, if_neg (by simp), setMap_at]
  | true =>
    rw [if_pos rfl, Bool.true_and]
    by_cases h : canon s.data.toList = fk.data.toList
    · have hk : isKey s fk = true := beq_iff_eq.2 h
      have : keyLit fk = .string (canon s.data.toList) := by unfold keyLit; rw [← h]
      rw [hk, if_pos rfl, this, atKey_put_same (k := .string _) (setMap_isMap N n) (show WideAt.IsKeyLit (.string _) from trivial)]; rfl
    · have hk : isKey s fk = false := beq_eq_false_iff_ne.2 h
      rw [hk, if_neg (by simp), atKey_put_other (by unfold keyLit; intro e; injection e with e; exact h e), setMap_at]

theorem law : Keyed Tryd.prog 9 := string_keyed Tryd.underlying9
theorem zero53 (u : World) : (zeroValue 53).run Tryd.prog u = .ok .nilFunc u := by kernel_rfl
theorem makeMap43 (u : World) : (Instr.makeMap 43 none).run Tryd.prog u = .ok (.map (some u.heap.size)) (u.alloc (.map #[] 0)) := by
  simp [Instr.makeMap, run_underlying Tryd.underlying43]
theorem ownsMap_below {w w' : World} {b n : Nat} {D : DataW Unit} (h : w.ownsMap Tryd.prog 9 fnElem b n D) (hb : Below w.heap.size w w') : w'.ownsMap Tryd.prog 9 fnElem b n D := by
  have hlt := h.lt
  obtain ⟨es, clock, hm, r⟩ := h
  exact ⟨es, clock, (hb.block b hlt).trans hm, r⟩

theorem canonB_size (s : ByteArray) : (canonB s).size = s.size := by
  unfold canonB
  show ((canon s.data.toList).toArray).size = s.data.size
  rw [List.size_toArray]; unfold canon; rw [List.length_map, Array.length_toList]

/-- the map at a text's key. -/
def setterV : Option Nat → Value
  | none => .nilFunc
  | some g => .func (.func g) #[] #[]
theorem look_set {u : World} {m cnt : Nat} {N : Nat → ByteArray} {n : Nat} {fk : ByteArray} {fail : Bool} {s : ByteArray} (hown : u.ownsMap Tryd.prog 9 fnElem m cnt (setAll N n fk fail)) (hs : s.size ≤ maxLen) :
    (Instr.lookup 43 (.map (some m)) (.string (canonB s)) true).run Tryd.prog u = .ok (.tuple #[setterV (setter s N n fk fail), .bool (setter s N n fk fail).isSome]) u := by
  have hk : keyOf Tryd.prog 9 (.string (canonB s)) = some (.string (canon s.data.toList)) := by
    have := Go.WideMaps.keyOf_string_mk (P := Tryd.prog) (k := 9) (s := canonB s) Tryd.underlying9 (by rw [canonB_size]; exact hs)
    simpa [canonB] using this
  obtain ⟨v, ps, hrun, hv⟩ := hown.look_ok law Tryd.underlying43 (zero53 u) (zd := .nil) (zp := []) rfl hk
  rw [setAll_has] at hrun
  rw [setAll_at] at hv
  cases hse : setter s N n fk fail with
  | none =>
    rw [hse] at hv hrun
    obtain rfl := fnElem_nil hv
    exact hrun
  | some g =>
    rw [hse] at hv hrun
    obtain rfl := fnElem_at hv
    exact hrun

set_option maxRecDepth 100000 in
set_option maxHeartbeats 1000000 in
theorem set_cells (b off n cap : Nat) (N : Nat → ByteArray) (fk : ByteArray) (fail : Bool) (w : World) (hn : n ≤ 4096) (hb : b < w.heap.size) (hN : ∀ i, i < n → (N i).size ≤ 1048576) (hfk : fk.size ≤ 1048576)
    (hc : ∀ i, i < n → w.cell? ⟨b, off + i, none⟩ = some (.string (N i))) :
    Calls Tryd.prog 13 #[.slice (some ⟨b, off, none⟩) n cap, .string fk, .bool fail] w fun e w' => e = .returned (.map (some w.heap.size)) ∧ (∃ cnt, w'.ownsMap Tryd.prog 9 fnElem w.heap.size cnt (setAll N n fk fail)) ∧ Below w.heap.size w w' := by
  have hmm := makeMap43
  have HC : Hid (∀ i, i < n → w.cell? ⟨b, off + i, none⟩ = some (.string (N i))) := hc
  have HN : Hid (∀ i, i < n → (N i).size ≤ 1048576) := hN
  clear hc hN
  go_enter Tryd.func13, Tryd.ntmps13
  go_wp2
  go_loopw [13] (fun i wx => ∃ k : Nat, k ≤ n ∧ i = .int .i64 k ∧ Hid (wx.ownsMap Tryd.prog 9 fnElem w.heap.size k (setMap N k)) ∧ Below w.heap.size w wx) (fun i _ => n - (intOf i).toNat)
  case atStart => exact ⟨0, Nat.zero_le _, rfl, World.ownsMap_made _ _ _ _, (Below.refl _ w).alloc (Nat.le_refl _) _⟩
  case round =>
    obtain ⟨k, hk, rfl, hown, hnx⟩ := hrel
    clear hmm
    by_cases hlt : k < n
    · have hc1 : wr.cell? ⟨b, off + k, none⟩ = some (.string (N k)) := by rw [hnx.cell (p := ⟨b, off + k, none⟩) hb]; exact HC.out k hlt
      have hNk := HN.out k hlt
      have HK : Hid (keyOf Tryd.prog 9 (.string (N k)) = some (keyLit (N k))) := Go.WideMaps.keyOf_string_mk (P := Tryd.prog) (k := 9) (s := N k) Tryd.underlying9 (by unfold maxLen; omega)
      have i1 : (k : Int) < (n : Int) := by omega
      go_wp2_with (at_mapUpdate; refine wpList_mapUpdate_own _ rfl _ _ _ 43 rfl 9 53 law Tryd.underlying43 _ w.heap.size k _ rfl hown.out (by unfold maxLen; omega) _ _ _ rfl rfl HK.out (.lit (.int .i64 ((19 : Nat) : Int))) [] rfl ?_; intro w3 ho3 hg3)
      go_roundw
      case rel => exact ⟨k + 1, by omega, by go_num, (by show Hid (World.ownsMap _ _ _ _ _ _ _); rw [setMap_step]; exact ho3), hnx.grown hg3 hnx.size (fun j hj => by cases hj; exact Nat.le_refl _)⟩
      case measure => simp [intOf]; omega
    · obtain rfl : k = n := by omega
      cases fail with
      | false =>
        go_wp2_with fail
        go_ret
        exact ⟨rfl, ⟨k, hown.out⟩, hnx⟩
      | true =>
        have HK : Hid (keyOf Tryd.prog 9 (.string fk) = some (keyLit fk)) := Go.WideMaps.keyOf_string_mk (P := Tryd.prog) (k := 9) (s := fk) Tryd.underlying9 (by unfold maxLen; omega)
        go_wp2_with (at_mapUpdate; refine wpList_mapUpdate_own _ rfl _ _ _ 43 rfl 9 53 law Tryd.underlying43 _ w.heap.size k _ rfl hown.out (by unfold maxLen; omega) _ _ _ rfl rfl HK.out (.lit (.int .i64 ((20 : Nat) : Int))) [] rfl ?_; intro w3 ho3 hg3)
        go_ret
        exact ⟨rfl, ⟨k + 1, ho3⟩, hnx.grown hg3 hnx.size (fun j hj => by cases hj; exact Nat.le_refl _)⟩

set_option maxRecDepth 100000 in
set_option maxHeartbeats 1000000 in
theorem set_empty (a : Option Addr) (cap : Nat) (N : Nat → ByteArray) (fk : ByteArray) (fail : Bool) (w : World) (hfk : fk.size ≤ 1048576) :
    Calls Tryd.prog 13 #[.slice a 0 cap, .string fk, .bool fail] w fun e w' => e = .returned (.map (some w.heap.size)) ∧ (∃ cnt, w'.ownsMap Tryd.prog 9 fnElem w.heap.size cnt (setAll N 0 fk fail)) ∧ Below w.heap.size w w' := by
  have hmm := makeMap43
  go_enter Tryd.func13, Tryd.ntmps13
  go_wp2
  go_loopw [13] (fun i wx => i = .int .i64 0 ∧ Hid (wx.ownsMap Tryd.prog 9 fnElem w.heap.size 0 (setMap N 0)) ∧ Below w.heap.size w wx) (fun i _ => 0)
  case atStart => exact ⟨rfl, World.ownsMap_made _ _ _ _, (Below.refl _ w).alloc (Nat.le_refl _) _⟩
  case round =>
    obtain ⟨rfl, hown, hnx⟩ := hrel
    clear hmm
    cases fail with
    | false =>
      go_wp2_with fail
      go_ret
      exact ⟨rfl, ⟨0, hown.out⟩, hnx⟩
    | true =>
      have HK : Hid (keyOf Tryd.prog 9 (.string fk) = some (keyLit fk)) := Go.WideMaps.keyOf_string_mk (P := Tryd.prog) (k := 9) (s := fk) Tryd.underlying9 (by unfold maxLen; omega)
      go_wp2_with (at_mapUpdate; refine wpList_mapUpdate_own _ rfl _ _ _ 43 rfl 9 53 law Tryd.underlying43 _ w.heap.size 0 _ rfl hown.out (by unfold maxLen; omega) _ _ _ rfl rfl HK.out (.lit (.int .i64 ((20 : Nat) : Int))) [] rfl ?_; intro w3 ho3 hg3)
      go_ret
      exact ⟨rfl, ⟨1, ho3⟩, hnx.grown hg3 hnx.size (fun j hj => by cases hj; exact Nat.le_refl _)⟩

theorem set_any (v : Value) (n : Nat) (N : Nat → ByteArray) (fk : ByteArray) (fail : Bool) (w : World) (hn : n ≤ 4096) (hN : ∀ i, i < n → (N i).size ≤ 1048576) (hfk : fk.size ≤ 1048576) (hv : SAt w v N n) :
    Calls Tryd.prog 13 #[v, .string fk, .bool fail] w fun e w' => e = .returned (.map (some w.heap.size)) ∧ (∃ cnt, w'.ownsMap Tryd.prog 9 fnElem w.heap.size cnt (setAll N n fk fail)) ∧ Below w.heap.size w w' := by
  obtain ⟨a, c, rfl, h2, h3⟩ := hv
  by_cases hn0 : 0 < n
  · obtain ⟨b, off, rfl, hc⟩ := h3 hn0
    exact set_cells b off n c N fk fail w hn (cell_lt (hc 0 hn0)) hN hfk hc
  · obtain rfl : n = 0 := by omega
    exact set_empty a c N fk fail w hfk

set_option maxHeartbeats 1000000 in
theorem accept_any (v : Value) (w : World) : Calls Tryd.prog 19 #[v] w fun e w' => e = .returned .nilIface ∧ w' = w := by
  go_enter Tryd.func19, Tryd.ntmps19
  go_wp2
  go_ret
  exact ⟨rfl, rfl⟩

set_option maxHeartbeats 1000000 in
theorem refuse_any (p : Nat) (kd : Int) (fl : ByteArray) (ln cl : Int) (tx : ByteArray) (ag : Value) (w : World) (h : LAt w p 0 kd fl ln cl tx ag) :
    Calls Tryd.prog 20 #[.pointer (some ⟨p, 0, none⟩)] w fun e w' => e = .returned (.iface 56 (.pointer (some ⟨w.heap.size, 0, none⟩))) ∧ Below w.heap.size w w' := by
  have c1 : w.cell? ⟨p, 1, none⟩ = some (.string fl) := by simpa using h.c1
  have c2 : w.cell? ⟨p, 2, none⟩ = some (.int .i64 ln) := by simpa using h.c2
  have c3 : w.cell? ⟨p, 3, none⟩ = some (.int .i64 cl) := by simpa using h.c3
  clear h
  go_enter Tryd.func20, Tryd.ntmps20
  go_wp2
  go_ret
  exact ⟨rfl, (Below.refl _ w).alloc (Nat.le_refl _) _⟩
end Go.Proofs.Qxb6604659aDoor
