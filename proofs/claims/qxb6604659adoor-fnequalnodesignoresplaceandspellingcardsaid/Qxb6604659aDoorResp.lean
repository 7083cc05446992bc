/-
  SEAT b6604659aD: respell: a forest of LNodes copied into new memory, each node moved, each keyword's hyphens and underscores exchanged.
-/
import Derived.Test.Qxb6604659aDoorConv
import Derived.Laws.IdiomCopy
namespace Go.Proofs.Qxb6604659aDoor
open Go Go.RowKit
set_option linter.unusedVariables false
set_option linter.unusedSimpArgs false

/-- nv, in w, is the respelling of the LNodes v of w0. -/
def Resp (B base : Nat) (w0 w : World) : Nat → Value → Value → Prop
  | 0, v, nv => NoElems v ∧ NoElems nv
  | n + 1, v, nv => (NoElems v ∧ NoElems nv) ∨ ∃ b off len cap F, v = .slice (some ⟨b, off, none⟩) len cap ∧ nv = .slice (some ⟨F, 0, none⟩) len len ∧ base ≤ F ∧ len ≤ B ∧
      ∀ i, i < len → ∃ kd fl ln cl tx ag fl' ln' cl' tx' ag', LAt w0 b (off + i * 6) kd fl ln cl tx ag ∧ LAt w F (0 + i * 6) kd fl' ln' cl' tx' ag' ∧ fl'.size ≤ B ∧ tx'.size ≤ B ∧ (kd = 1 → tx' = tx) ∧ (kd ≠ 1 → canon tx'.data.toList = canon tx.data.toList) ∧ Resp B base w0 w n ag ag'

theorem LAt.stay {w w' : World} {base b o : Nat} {kd : Int} {fl : ByteArray} {ln cl : Int} {tx : ByteArray} {ag : Value} (hs : ∀ j, base ≤ j → j < w.heap.size → w'.heap[j]? = w.heap[j]?) (hb : base ≤ b) (h : LAt w b o kd fl ln cl tx ag) : LAt w' b o kd fl ln cl tx ag :=
  ⟨cell_stay hs hb h.c0, cell_stay hs hb h.c1, cell_stay hs hb h.c2, cell_stay hs hb h.c3, cell_stay hs hb h.c4, cell_stay hs hb h.c5⟩
theorem Resp.stay {B base : Nat} {w0 w w' : World} (hs : ∀ j, base ≤ j → j < w.heap.size → w'.heap[j]? = w.heap[j]?) : ∀ {n : Nat} {v nv : Value}, Resp B base w0 w n v nv → Resp B base w0 w' n v nv
  | 0, v, nv, h => h
  | n + 1, v, nv, h => by
    rcases h with h | ⟨b, off, len, cap, F, rfl, rfl, hF, hl, he⟩
    · exact .inl h
    · refine .inr ⟨b, off, len, cap, F, rfl, rfl, hF, hl, fun i hi => ?_⟩
      obtain ⟨kd, fl, ln, cl, tx, ag, fl', ln', cl', tx', ag', h1, h2, h3, h4, h5, h6, h7⟩ := he i hi
      exact ⟨kd, fl, ln, cl, tx, ag, fl', ln', cl', tx', ag', h1, h2.stay hs hF, h3, h4, h5, h6, Resp.stay hs h7⟩
theorem Resp.mono {B base base' : Nat} {w0 w : World} (hb : base' ≤ base) : ∀ {n : Nat} {v nv : Value}, Resp B base w0 w n v nv → Resp B base' w0 w n v nv
  | 0, v, nv, h => h
  | n + 1, v, nv, h => by
    rcases h with h | ⟨b, off, len, cap, F, rfl, rfl, hF, hl, he⟩
    · exact .inl h
    · refine .inr ⟨b, off, len, cap, F, rfl, rfl, by omega, hl, fun i hi => ?_⟩
      obtain ⟨kd, fl, ln, cl, tx, ag, fl', ln', cl', tx', ag', h1, h2, h3, h4, h5, h6, h7⟩ := he i hi
      exact ⟨kd, fl, ln, cl, tx, ag, fl', ln', cl', tx', ag', h1, h2, h3, h4, h5, h6, Resp.mono hb h7⟩
theorem Resp.slice {B base : Nat} {w0 w : World} : ∀ {n : Nat} {v nv : Value}, Resp B base w0 w n v nv → ∃ a l c, nv = .slice a l c
  | 0, v, nv, ⟨_, a, c, h, _⟩ => ⟨a, 0, c, h⟩
  | n + 1, v, nv, h => by
    rcases h with ⟨_, a, c, h, _⟩ | ⟨b, off, len, cap, F, _, h, _⟩
    · exact ⟨a, 0, c, h⟩
    · exact ⟨_, _, _, h⟩
theorem Resp.forest {B base : Nat} {w0 w : World} : ∀ {n : Nat} {v nv : Value}, Resp B base w0 w n v nv → LF B w n nv
  | 0, v, nv, h => h.2
  | n + 1, v, nv, h => by
    rcases h with h | ⟨b, off, len, cap, F, rfl, rfl, hF, hl, he⟩
    · exact .inl h.2
    · refine .inr ⟨F, 0, len, len, rfl, hl, fun i hi => ?_⟩
      obtain ⟨kd, fl, ln, cl, tx, ag, fl', ln', cl', tx', ag', h1, h2, h3, h4, h5, h6, h7⟩ := he i hi
      exact ⟨kd, fl', ln', cl', tx', ag', h2, h3, h4, Resp.forest h7⟩

def zeroL : Array Value := #[.int .i64 0, .string ByteArray.empty, .int .i64 0, .int .i64 0, .string ByteArray.empty, .slice none 0 0]
theorem info46 : (Tryd.prog.info? 46).map (fun i => (i.zero, i.size, i.bytes)) = some (some (.agg zeroL), 6, 80) := by kernel_rfl
theorem make46 (n : Nat) (hn : n ≤ 1048576) (u : World) : (Instr.makeSlice 22 (.int .i64 (n : Int)) (.int .i64 (n : Int))).run Tryd.prog u = .ok (.slice (some ⟨u.heap.size, 0, none⟩) n n) (u.alloc (.cells (madeCells zeroL (n * 6)) 46)) := by
  obtain ⟨i, hi, h⟩ := Option.map_eq_some_iff.1 info46
  obtain ⟨hz, hs, hb⟩ : i.zero = some (.agg zeroL) ∧ i.size = 6 ∧ i.bytes = 80 := by simpa using h
  have := run_make (P := Tryd.prog) u 22 46 i (.agg zeroL) Tryd.underlying22 hi hz .i64 .i64 n n (by omega) (Int.le_refl _) (by rw [hb]; omega) (by omega)
  simpa [hs, Value.cells] using this

/-- after k rounds of respell. -/
structure RespTo (B : Nat) (w0 w wr : World) (n b off len k : Nat) : Prop where
  size : w.heap.size + 1 ≤ wr.heap.size
  below : Below w.heap.size w wr
  free : ∀ i, i < len * 6 → wr.frozen? ⟨w.heap.size, i, none⟩ = false
  rest : ∀ i, k ≤ i → i < len → LAt wr w.heap.size (0 + i * 6) 0 ByteArray.empty 0 0 ByteArray.empty (.slice none 0 0)
  done : ∀ i, i < k → ∃ kd fl ln cl tx ag fl' ln' cl' tx' ag', LAt w0 b (off + i * 6) kd fl ln cl tx ag ∧ LAt wr w.heap.size (0 + i * 6) kd fl' ln' cl' tx' ag' ∧ fl'.size ≤ B ∧ tx'.size ≤ B ∧ (kd = 1 → tx' = tx) ∧ (kd ≠ 1 → canon tx'.data.toList = canon tx.data.toList) ∧ Resp B (w.heap.size + 1) w0 wr n ag ag'

theorem made_at (n i j : Nat) (hi : i < n) (hj : j < 6) (v : Value) (hz : zeroL[j]! = v) : (madeCells zeroL (n * 6))[0 + i * 6 + j]? = some v := by
  have hlt : 0 + i * 6 + j < n * 6 := by omega
  have hs : zeroL.size = 6 := rfl
  have hm : (0 + i * 6 + j) % zeroL.size = j := by rw [hs]; omega
  unfold madeCells
  rw [Array.getElem?_map, Array.getElem?_range, if_pos hlt]
  show some (zeroL[(0 + i * 6 + j) % zeroL.size]!) = some v
  rw [hm, hz]

theorem RespTo.start (B : Nat) (w0 w : World) (n b off len : Nat) : RespTo B w0 w (w.alloc (.cells (madeCells zeroL (len * 6)) 46)) n b off len 0 where
  size := by simp
  below := (Below.refl _ w).alloc (Nat.le_refl _) _
  free := fun i hi => by simp
  rest := fun i _ hi => by
    have hc : ∀ o, (w.alloc (.cells (madeCells zeroL (len * 6)) 46)).cell? ⟨w.heap.size, o, none⟩ = (madeCells zeroL (len * 6))[o]? := fun o => World.cell?_alloc_at _ _ _ _ rfl
    exact ⟨by rw [hc]; exact made_at len i 0 hi (by omega) _ rfl, by rw [hc]; exact made_at len i 1 hi (by omega) _ rfl, by rw [hc]; exact made_at len i 2 hi (by omega) _ rfl, by rw [hc]; exact made_at len i 3 hi (by omega) _ rfl, by rw [hc]; exact made_at len i 4 hi (by omega) _ rfl, by rw [hc]; exact made_at len i 5 hi (by omega) _ rfl⟩
  done := fun i hi => by omega

/-- the text that respell lays: swapped unless the node is a String. -/
def respT (kd : Int) (tx : ByteArray) : ByteArray := if kd = 1 then tx else ⟨(swap tx.data.toList).toArray⟩
theorem respT_size (kd : Int) (tx : ByteArray) : (respT kd tx).size = tx.size := by
  unfold respT
  split
  · rfl
  · show ((swap tx.data.toList).toArray).size = tx.data.size
    rw [List.size_toArray]; unfold swap; rw [List.length_map, Array.length_toList]
theorem respT_canon (kd : Int) (tx : ByteArray) (h : kd ≠ 1) : canon (respT kd tx).data.toList = canon tx.data.toList := by
  unfold respT; rw [if_neg h]
  exact canon_swap _

theorem resp_child {B n : Nat} {w0 w wr : World} {b off len k : Nat} (HT : RespTo B w0 w wr n b off len k) (hlt : k < len) (hb0 : Below w0.heap.size w0 w) {kd : Int} {fl : ByteArray} {ln cl : Int} {tx : ByteArray} {ga : Option Addr} {gl gc : Nat}
    (HI : ∀ (v : Value) (w : World), LF B w0 n v → Below w0.heap.size w0 w → Calls Tryd.prog 7 #[v] w fun e w' => ∃ nv, e = .returned nv ∧ Resp B w.heap.size w0 w' n v nv ∧ Below w.heap.size w w')
    (hag : LF B w0 n (.slice ga gl gc)) (u : World) (hu : Below (wr.heap.size + 1) (wr.alloc (.cells #[.int .i64 kd, .string fl, .int .i64 ln, .int .i64 cl, .string tx, .slice ga gl gc] 46)) u) :
    Calls Tryd.prog 7 #[.slice ga gl gc] u fun e w' => ∃ na nl nc, e = .returned (.slice na nl nc) ∧
      (w'.cell? ⟨wr.heap.size, 0, none⟩ = some (.int .i64 kd) ∧ w'.cell? ⟨wr.heap.size, 2, none⟩ = some (.int .i64 ln) ∧ w'.cell? ⟨wr.heap.size, 3, none⟩ = some (.int .i64 cl) ∧ w'.cell? ⟨wr.heap.size, 5, none⟩ = some (.slice ga gl gc)) ∧
      (w'.cell? ⟨w.heap.size, k * 6, none⟩ = some (.int .i64 0) ∧ w'.cell? ⟨w.heap.size, k * 6 + 1, none⟩ = some (.string ByteArray.empty) ∧ w'.cell? ⟨w.heap.size, k * 6 + 2, none⟩ = some (.int .i64 0) ∧ w'.cell? ⟨w.heap.size, k * 6 + 3, none⟩ = some (.int .i64 0) ∧ w'.cell? ⟨w.heap.size, k * 6 + 4, none⟩ = some (.string ByteArray.empty) ∧ w'.cell? ⟨w.heap.size, k * 6 + 5, none⟩ = some (.slice none 0 0)) ∧
      (w'.frozen? ⟨w.heap.size, k * 6, none⟩ = false ∧ w'.frozen? ⟨w.heap.size, k * 6 + 1, none⟩ = false ∧ w'.frozen? ⟨w.heap.size, k * 6 + 2, none⟩ = false ∧ w'.frozen? ⟨w.heap.size, k * 6 + 3, none⟩ = false ∧ w'.frozen? ⟨w.heap.size, k * 6 + 4, none⟩ = false ∧ w'.frozen? ⟨w.heap.size, k * 6 + 5, none⟩ = false) ∧
      w.heap.size < w'.heap.size ∧
      Hid (Resp B (wr.heap.size + 1) w0 w' n (.slice ga gl gc) (.slice na nl nc) ∧ Below (wr.heap.size + 1) (wr.alloc (.cells #[.int .i64 kd, .string fl, .int .i64 ln, .int .i64 cl, .string tx, .slice ga gl gc] 46)) w') := by
  have hsz := HT.size
  have hsz0 := hb0.size
  have hus := hu.size
  have hss : (wr.alloc (.cells #[.int .i64 kd, .string fl, .int .i64 ln, .int .i64 cl, .string tx, .slice ga gl gc] 46)).heap.size = wr.heap.size + 1 := by simp
  rw [hss] at hus
  have hbu : Below w0.heap.size w0 u := hb0.trans ((HT.below.mono (by omega)).trans (((Below.refl wr.heap.size wr).alloc (Nat.le_refl _) _ |>.mono (by omega)).trans (hu.mono (by omega))))
  refine (HI (.slice ga gl gc) u hag hbu).mono ?_
  rintro e w' ⟨nv, rfl, hcv, hb'⟩
  obtain ⟨na, nl, nc, rfl⟩ := hcv.slice
  have hbx : Below (wr.heap.size + 1) (wr.alloc (.cells #[.int .i64 kd, .string fl, .int .i64 ln, .int .i64 cl, .string tx, .slice ga gl gc] 46)) w' := hu.trans (hb'.mono hus)
  have hx : ∀ o v, (wr.alloc (.cells #[.int .i64 kd, .string fl, .int .i64 ln, .int .i64 cl, .string tx, .slice ga gl gc] 46)).cell? ⟨wr.heap.size, o, none⟩ = some v → w'.cell? ⟨wr.heap.size, o, none⟩ = some v := fun o v h => (hbx.cell (p := ⟨wr.heap.size, o, none⟩) (by show wr.heap.size < _; omega)).trans h
  have hf : ∀ o v, wr.cell? ⟨w.heap.size, o, none⟩ = some v → w'.cell? ⟨w.heap.size, o, none⟩ = some v := fun o v h => by
    rw [hbx.cell (p := ⟨w.heap.size, o, none⟩) (by show w.heap.size < _; omega), World.cell?_alloc_lt _ _ _ (by show w.heap.size < _; omega)]; exact h
  have hg : ∀ o, o < len * 6 → w'.frozen? ⟨w.heap.size, o, none⟩ = false := fun o h => by
    rw [hbx.frozen (p := ⟨w.heap.size, o, none⟩) (by show w.heap.size < _; omega), World.frozen?_alloc_past _ _ _ (by show w.heap.size < _; omega)]; exact HT.free o h
  have hr := HT.rest k (Nat.le_refl _) hlt
  rw [Nat.zero_add] at hr
  refine ⟨na, nl, nc, rfl, ⟨hx 0 _ (by simp), hx 2 _ (by simp), hx 3 _ (by simp), hx 5 _ (by simp)⟩, ⟨hf _ _ hr.c0, hf _ _ hr.c1, hf _ _ hr.c2, hf _ _ hr.c3, hf _ _ hr.c4, hf _ _ hr.c5⟩, ⟨hg _ (by omega), hg _ (by omega), hg _ (by omega), hg _ (by omega), hg _ (by omega), hg _ (by omega)⟩, ?_, hcv.mono hus, hbx⟩
  have := hbx.size; rw [hss] at this; omega

theorem heap_setCells (b : Nat) : ∀ (vs : List Value) (o : Nat) (w : World) (j : Nat), j ≠ b → (w.setCells b o vs).heap[j]? = w.heap[j]?
  | [], _, _, _, _ => rfl
  | v :: r, o, w, j, h => by rw [World.setCells, heap_setCells b r (o + 1) _ j h]; exact Below.heap_setCell _ _ _ _ h
theorem size_setCells (b : Nat) : ∀ (vs : List Value) (o : Nat) (w : World), (w.setCells b o vs).heap.size = w.heap.size
  | [], _, _ => rfl
  | v :: r, o, w => by rw [World.setCells, size_setCells b r (o + 1)]; simp
theorem below_setCells {B : Nat} {w0 : World} (b : Nat) (hb : B ≤ b) : ∀ (vs : List Value) (o : Nat) (w : World), Below B w0 w → Below B w0 (w.setCells b o vs)
  | [], _, _, h => h
  | v :: r, o, w, h => by rw [World.setCells]; exact below_setCells b hb r (o + 1) _ (h.setCell hb _)

theorem RespTo.step {B : Nat} {w0 w wr w2 : World} {n b off len k : Nat} (HT : RespTo B w0 w wr n b off len k) (hlt : k < len) {kd : Int} {fl : ByteArray} {ln cl : Int} {tx : ByteArray} {ag : Value} {na : Option Addr} {nl nc : Nat} {X : Obj}
    (hA : LAt w0 b (off + k * 6) kd fl ln cl tx ag) {fl' : ByteArray} {tx' : ByteArray} (hfl' : fl'.size ≤ B) (htx' : tx'.size ≤ B) (h1 : kd = 1 → tx' = tx) (h2 : kd ≠ 1 → canon tx'.data.toList = canon tx.data.toList)
    (hcv : Resp B (wr.heap.size + 1) w0 w2 n ag (.slice na nl nc)) (hbx : Below (wr.heap.size + 1) (wr.alloc X) w2) (ln' cl' : Int) :
    RespTo B w0 w (w2.setCells w.heap.size (k * 6) [.int .i64 kd, .string fl', .int .i64 ln', .int .i64 cl', .string tx', .slice na nl nc]) n b off len (k + 1) := by
  have hsz := HT.size
  have hs2 : wr.heap.size + 1 ≤ w2.heap.size := by have := hbx.size; simpa using this
  have hwr : Below wr.heap.size wr w2 := ((Below.refl wr.heap.size wr).alloc (Nat.le_refl _) X).trans (hbx.mono (by omega))
  have hF : w.heap.size < wr.heap.size := by omega
  have hstay : ∀ j, w.heap.size + 1 ≤ j → j < wr.heap.size → (w2.setCells w.heap.size (k * 6) [.int .i64 kd, .string fl', .int .i64 ln', .int .i64 cl', .string tx', .slice na nl nc]).heap[j]? = wr.heap[j]? := fun j h1 h2 => by
    rw [heap_setCells _ _ _ _ _ (by omega)]; exact hwr.block j h2
  have hout : ∀ o, (o < k * 6 ∨ k * 6 + 6 ≤ o) → (w2.setCells w.heap.size (k * 6) [.int .i64 kd, .string fl', .int .i64 ln', .int .i64 cl', .string tx', .slice na nl nc]).cell? ⟨w.heap.size, o, none⟩ = wr.cell? ⟨w.heap.size, o, none⟩ := fun o ho => by
    rw [World.cell?_setCells_out _ _ _ _ _ (fun _ _ => ho)]
    exact hwr.cell (p := ⟨w.heap.size, o, none⟩) hF
  have hr := HT.rest k (Nat.le_refl _) hlt
  rw [Nat.zero_add] at hr
  have hr2 : ∀ o v, wr.cell? ⟨w.heap.size, o, none⟩ = some v → (w2.cell? ⟨w.heap.size, o, none⟩).isSome = true := fun o v h => by
    rw [hwr.cell (p := ⟨w.heap.size, o, none⟩) hF, h]; rfl
  have hin := World.cell?_setCells_in w.heap.size [.int .i64 kd, .string fl', .int .i64 ln', .int .i64 cl', .string tx', .slice na nl nc] (k * 6) w2 (by
    intro j hj
    match j, hj with
    | 0, _ => exact hr2 _ _ hr.c0
    | 1, _ => exact hr2 _ _ hr.c1
    | 2, _ => exact hr2 _ _ hr.c2
    | 3, _ => exact hr2 _ _ hr.c3
    | 4, _ => exact hr2 _ _ hr.c4
    | 5, _ => exact hr2 _ _ hr.c5)
  have hat : ∀ i o, (i < k ∨ k < i) → o < 6 → (w2.setCells w.heap.size (k * 6) [.int .i64 kd, .string fl', .int .i64 ln', .int .i64 cl', .string tx', .slice na nl nc]).cell? ⟨w.heap.size, 0 + i * 6 + o, none⟩ = wr.cell? ⟨w.heap.size, 0 + i * 6 + o, none⟩ := fun i o hi ho => hout _ (by omega)
  have hL : ∀ {i : Nat} {kd : Int} {fl : ByteArray} {ln cl : Int} {tx : ByteArray} {ag : Value}, (i < k ∨ k < i) → LAt wr w.heap.size (0 + i * 6) kd fl ln cl tx ag → LAt (w2.setCells w.heap.size (k * 6) [.int .i64 _, .string fl', .int .i64 ln', .int .i64 cl', .string tx', .slice na nl nc]) w.heap.size (0 + i * 6) kd fl ln cl tx ag := fun {i} {_} {_} {_} {_} {_} {_} hi h =>
    ⟨(hat i 0 hi (by omega)).trans h.c0, (hat i 1 hi (by omega)).trans h.c1, (hat i 2 hi (by omega)).trans h.c2, (hat i 3 hi (by omega)).trans h.c3, (hat i 4 hi (by omega)).trans h.c4, (hat i 5 hi (by omega)).trans h.c5⟩
  refine ⟨by rw [size_setCells]; omega, ?_, ?_, ?_, ?_⟩
  · exact below_setCells _ (Nat.le_refl _) _ _ _ (HT.below.trans (hwr.mono (by omega)))
  · intro i hi
    rw [World.frozen?_setCells, hwr.frozen (p := ⟨w.heap.size, i, none⟩) hF]
    exact HT.free i hi
  · intro i h1 h2
    exact hL (Or.inr (by omega)) (HT.rest i (by omega) h2)
  · intro i hi
    by_cases e : i = k
    · subst e
      refine ⟨kd, fl, ln, cl, tx, ag, fl', ln', cl', tx', .slice na nl nc, hA, ?_, hfl', htx', h1, h2, ?_⟩
      · rw [Nat.zero_add]
        exact ⟨hin 0 (by simp), hin 1 (by simp), hin 2 (by simp), hin 3 (by simp), hin 4 (by simp), hin 5 (by simp)⟩
      · exact (hcv.stay (fun j h1 h2 => heap_setCells _ _ _ _ _ (by omega))).mono (by omega)
    · obtain ⟨kd', fl1, ln1, cl1, tx1, ag1, fl2, ln2, cl2, tx2, ag2, k1, k2, k3, k4, k5, k6, k7⟩ := HT.done i (by omega)
      exact ⟨kd', fl1, ln1, cl1, tx1, ag1, fl2, ln2, cl2, tx2, ag2, k1, hL (Or.inl (by omega)) k2, k3, k4, k5, k6, k7.stay hstay⟩

set_option maxRecDepth 100000 in
set_option maxHeartbeats 4000000 in
theorem respell_step (B n : Nat) (hB : B ≤ 1048576) (hB8 : 8 ≤ B) (w0 : World)
    (IH : ∀ (v : Value) (w : World), LF B w0 n v → Below w0.heap.size w0 w → Calls Tryd.prog 7 #[v] w fun e w' => ∃ nv, e = .returned nv ∧ Resp B w.heap.size w0 w' n v nv ∧ Below w.heap.size w w')
    (b off len cap : Nat) (w : World) (hl : len ≤ B) (hb0 : Below w0.heap.size w0 w)
    (he : ∀ i, i < len → ∃ kd fl ln cl tx ag, LAt w0 b (off + i * 6) kd fl ln cl tx ag ∧ fl.size ≤ B ∧ tx.size ≤ B ∧ LF B w0 n ag) :
    Calls Tryd.prog 7 #[.slice (some ⟨b, off, none⟩) len cap] w fun e w' => ∃ nv, e = .returned nv ∧ Resp B w.heap.size w0 w' (n + 1) (.slice (some ⟨b, off, none⟩) len cap) nv ∧ Below w.heap.size w w' := by
  have hmk := make46 len (by omega)
  have heq := fun u => Lib.run_eql_slice_nil (P := Tryd.prog) u 22 46 (some ⟨b, off, none⟩) len cap 0 0 Tryd.underlying22
  have HI : Hid (∀ (v : Value) (w : World), LF B w0 n v → Below w0.heap.size w0 w → Calls Tryd.prog 7 #[v] w fun e w' => ∃ nv, e = .returned nv ∧ Resp B w.heap.size w0 w' n v nv ∧ Below w.heap.size w w') := IH
  have HE : Hid (∀ i, i < len → ∃ kd fl ln cl tx ag, LAt w0 b (off + i * 6) kd fl ln cl tx ag ∧ fl.size ≤ B ∧ tx.size ≤ B ∧ LF B w0 n ag) := he
  clear IH he
  have hsz0 := hb0.size
  go_enter Tryd.func7, Tryd.ntmps7
  go_wp2
  go_loopw [4] (fun i wx => ∃ k : Nat, k ≤ len ∧ i = .int .i64 k ∧ RespTo B w0 w wx n b off len k) (fun i _ => len - (intOf i).toNat)
  case atStart => exact ⟨0, Nat.zero_le _, rfl, RespTo.start B w0 w n b off len⟩
  case round =>
    obtain ⟨k, hk, rfl, HT⟩ := hrel
    clear hmk heq
    by_cases hlt : k < len
    · obtain ⟨kd, fl, ln, cl, tx, ag, hA, hfl, htx, hag⟩ := HE.out k hlt
      obtain ⟨ga, gl, gc, rfl⟩ := hag.slice
      have hAr : LAt wr b (off + k * 6) kd fl ln cl tx (.slice ga gl gc) := (hA.below hb0).below HT.below
      obtain ⟨c0, c1, c2, c3, c4, c5⟩ := hAr
      have hsz := HT.size
      have HSW : Hid (∀ u, Calls Tryd.prog 16 #[.string tx] u fun e w' => e = .returned (.string ⟨(swap tx.data.toList).toArray⟩) ∧ Below u.heap.size u w') := fun u => swapDash_any tx u (by omega)
      have HX : Hid (∀ u, Below (wr.heap.size + 1) (wr.alloc (.cells #[.int .i64 kd, .string fl, .int .i64 ln, .int .i64 cl, .string tx, .slice ga gl gc] 46)) u → _) := fun u hu => resp_child HT hlt hb0 HI.out hag u hu
      have i1 : (k : Int) < (len : Int) := by omega
      have hne : w.heap.size ≠ wr.heap.size := by omega
      by_cases hkd : kd = 1
      · have hv : (kd != 1) = false := by rw [hkd]; rfl
        have HKD : Hid (kd = 1) := hkd
        clear hkd
        go_wp2_with fail
        go_region_held3 (fun u => u.cell? ⟨wr.heap.size, 0, none⟩ = some (.int .i64 kd) ∧ u.cell? ⟨wr.heap.size, 2, none⟩ = some (.int .i64 ln) ∧ u.cell? ⟨wr.heap.size, 3, none⟩ = some (.int .i64 cl) ∧ u.cell? ⟨wr.heap.size, 5, none⟩ = some (.slice ga gl gc)) (go_keep)
          ((go_at_call 7; refine (HX.out _ (by repeat (first | exact Below.refl _ _ | refine Below.drew ?_))).mono ?_; rintro e w2 ⟨na, nl, nc, rfl, ⟨x0, x2, x3, x5⟩, ⟨f0, f1, f2, f3, f4, f5⟩, ⟨g0, g1, g2, g3, g4, g5⟩, hlt2, hcb⟩))
        have HS := fun ln' cl' => HT.step hlt hA (fl' := ⟨#[122, 122, 45, 109, 111, 118, 101, 100]⟩) (tx' := tx) (by show 8 ≤ B; omega) htx (fun _ => rfl) (fun h => absurd HKD.out h) hcb.out.1 hcb.out.2 ln' cl'
        go_wp2_with fail
        go_roundw
        case rel => exact ⟨k + 1, by omega, by go_num, HS _ _⟩
        case measure => simp [intOf]; omega
      · have hv : (kd != 1) = true := by rw [bne_iff_ne]; exact hkd
        have HKD : Hid (kd ≠ 1) := hkd
        have hts := respT_size kd tx
        have htc := respT_canon kd tx hkd
        have hte : respT kd tx = ⟨(swap tx.data.toList).toArray⟩ := by unfold respT; rw [if_neg hkd]
        rw [hte] at hts htc
        clear hkd hte
        generalize (⟨(swap tx.data.toList).toArray⟩ : ByteArray) = tq at HSW hts htc
        have HTS : Hid (tq.size = tx.size) := hts
        have HTC : Hid (canon tq.data.toList = canon tx.data.toList) := htc
        clear hts htc
        go_wp2_with fail
        refine (HSW.out _).mono ?_
        rintro e ws ⟨rfl, hbs⟩
        have hss : (wr.alloc (.cells #[.int .i64 kd, .string fl, .int .i64 ln, .int .i64 cl, .string tx, .slice ga gl gc] 46)).heap.size = wr.heap.size + 1 := by simp
        rw [hss] at hbs
        have s0 : ws.cell? ⟨wr.heap.size, 0, none⟩ = some (.int .i64 kd) := (hbs.cell (p := ⟨wr.heap.size, 0, none⟩) (by show wr.heap.size < _; omega)).trans (by simp)
        have s2 : ws.cell? ⟨wr.heap.size, 2, none⟩ = some (.int .i64 ln) := (hbs.cell (p := ⟨wr.heap.size, 2, none⟩) (by show wr.heap.size < _; omega)).trans (by simp)
        have s3 : ws.cell? ⟨wr.heap.size, 3, none⟩ = some (.int .i64 cl) := (hbs.cell (p := ⟨wr.heap.size, 3, none⟩) (by show wr.heap.size < _; omega)).trans (by simp)
        have s5 : ws.cell? ⟨wr.heap.size, 5, none⟩ = some (.slice ga gl gc) := (hbs.cell (p := ⟨wr.heap.size, 5, none⟩) (by show wr.heap.size < _; omega)).trans (by simp)
        have HBS : Hid (Below (wr.heap.size + 1) (wr.alloc (.cells #[.int .i64 kd, .string fl, .int .i64 ln, .int .i64 cl, .string tx, .slice ga gl gc] 46)) ws) := hbs
        clear hbs hss
        go_wp2_with fail
        go_region_held3 (fun u => u.cell? ⟨wr.heap.size, 0, none⟩ = some (.int .i64 kd) ∧ u.cell? ⟨wr.heap.size, 2, none⟩ = some (.int .i64 ln) ∧ u.cell? ⟨wr.heap.size, 3, none⟩ = some (.int .i64 cl) ∧ u.cell? ⟨wr.heap.size, 5, none⟩ = some (.slice ga gl gc)) (go_keep)
          ((go_at_call 7; refine (HX.out _ (by repeat (first | exact HBS.out | refine Below.drew ?_))).mono ?_; rintro e w2 ⟨na, nl, nc, rfl, ⟨x0, x2, x3, x5⟩, ⟨f0, f1, f2, f3, f4, f5⟩, ⟨g0, g1, g2, g3, g4, g5⟩, hlt2, hcb⟩))
        have HS := fun ln' cl' => HT.step hlt hA (fl' := ⟨#[122, 122, 45, 109, 111, 118, 101, 100]⟩) (tx' := tq) (by show 8 ≤ B; omega) (by rw [HTS.out]; exact htx) (fun h => absurd h HKD.out) (fun _ => HTC.out) hcb.out.1 hcb.out.2 ln' cl'
        go_wp2_with fail
        go_roundw
        case rel => exact ⟨k + 1, by omega, by go_num, HS _ _⟩
        case measure => simp [intOf]; omega
    · obtain rfl : k = len := by omega
      go_wp2_with fail
      go_ret
      refine ⟨_, rfl, ?_, HT.below⟩
      refine .inr ⟨b, off, k, cap, w.heap.size, rfl, rfl, Nat.le_refl _, hl, fun i hi => ?_⟩
      obtain ⟨kd', fl1, ln1, cl1, tx1, ag1, fl2, ln2, cl2, tx2, ag2, k1, k2, k3, k4, k5, k6, k7⟩ := HT.done i hi
      exact ⟨kd', fl1, ln1, cl1, tx1, ag1, fl2, ln2, cl2, tx2, ag2, k1, k2, k3, k4, k5, k6, k7.mono (by omega)⟩

set_option maxRecDepth 100000 in
set_option maxHeartbeats 1000000 in
theorem respell_empty (B n : Nat) (w0 w : World) (a : Option Addr) (c : Nat) (hc : a = none → c = 0) :
    Calls Tryd.prog 7 #[.slice a 0 c] w fun e w' => ∃ nv, e = .returned nv ∧ Resp B w.heap.size w0 w' n (.slice a 0 c) nv ∧ Below w.heap.size w w' := by
  have HC : Hid (∀ (w' : World) (a' : Option Addr) (c' : Nat), (a' = none → c' = 0) → Resp B w.heap.size w0 w' n (.slice a 0 c) (.slice a' 0 c')) := fun w' a' c' h' => by
    cases n with
    | zero => exact ⟨⟨a, c, rfl, hc⟩, ⟨a', c', rfl, h'⟩⟩
    | succ n => exact .inl ⟨⟨a, c, rfl, hc⟩, ⟨a', c', rfl, h'⟩⟩
  cases a with
  | none =>
    obtain rfl := hc rfl
    have heq := fun u => Lib.run_eql_slice_nil (P := Tryd.prog) u 22 46 none 0 0 0 0 Tryd.underlying22
    clear hc
    go_enter Tryd.func7, Tryd.ntmps7
    go_wp2
    go_ret
    exact ⟨_, rfl, HC.out w none 0 (fun _ => rfl), Below.refl _ _⟩
  | some A =>
    have heq := fun u => Lib.run_eql_slice_nil (P := Tryd.prog) u 22 46 (some A) 0 c 0 0 Tryd.underlying22
    have hmk := fun u => (show (Instr.makeSlice 22 (.int .i64 0) (.int .i64 0)).run Tryd.prog u = .ok (.slice (some ⟨u.heap.size, 0, none⟩) 0 0) (u.alloc (.cells (madeCells zeroL 0) 46)) from make46 0 (by omega) u)
    clear hc
    go_enter Tryd.func7, Tryd.ntmps7
    go_wp2
    go_loopw [4] (fun i wx => i = .int .i64 0 ∧ wx = w.alloc (.cells (madeCells zeroL 0) 46)) (fun i _ => 0)
    case atStart => exact ⟨rfl, rfl⟩
    case round =>
      obtain ⟨rfl, rfl⟩ := hrel
      clear hmk heq
      go_wp2
      go_ret
      exact ⟨_, rfl, HC.out _ _ 0 (fun h => by cases h), (Below.refl _ w).alloc (Nat.le_refl _) _⟩

theorem respell_any (B : Nat) (hB : B ≤ 1048576) (hB8 : 8 ≤ B) (w0 : World) : ∀ (n : Nat) (v : Value) (w : World), LF B w0 n v → Below w0.heap.size w0 w → Calls Tryd.prog 7 #[v] w fun e w' => ∃ nv, e = .returned nv ∧ Resp B w.heap.size w0 w' n v nv ∧ Below w.heap.size w w'
  | 0, v, w, h, hb => by
    obtain ⟨a, c, rfl, hc⟩ := h
    exact respell_empty B 0 w0 w a c hc
  | n + 1, v, w, h, hb => by
    rcases h with ⟨a, c, rfl, hc⟩ | ⟨b, off, len, cap, rfl, hl, he⟩
    · exact respell_empty B (n + 1) w0 w a c hc
    · exact respell_step B n hB hB8 w0 (fun v w => respell_any B hB hB8 w0 n v w) b off len cap w hl hb he
end Go.Proofs.Qxb6604659aDoor
