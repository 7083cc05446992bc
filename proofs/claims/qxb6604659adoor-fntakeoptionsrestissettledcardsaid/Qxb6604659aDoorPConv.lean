/-
  SEAT b6604659aD: toNodes once more, the whole of each node's block kept: its place too.
-/
import Derived.Test.Qxb6604659aDoorText
import Derived.Lib.SliceRun
import Derived.Deep.RegionHeld3
namespace Go.Proofs.Qxb6604659aDoor
open Go Go.RowKit
set_option linter.unusedVariables false
set_option linter.unusedSimpArgs false

/-- a slice of no elements and no room. -/
def PNoCap (v : Value) : Prop := ∃ a, v = .slice a 0 0
theorem PNoCap.noElems {v : Value} (h : PNoCap v) : NoElems v := ⟨h.choose, 0, h.choose_spec, fun _ => rfl⟩

/-- nv, in w, is the forest of nodes of the LNodes v of w0; all its blocks lie from base on. -/
def PConv (B base : Nat) (w0 w : World) : Nat → Value → Value → Prop
  | 0, v, nv => NoElems v ∧ PNoCap nv
  | n + 1, v, nv => (NoElems v ∧ PNoCap nv) ∨ ∃ b off len cap F, v = .slice (some ⟨b, off, none⟩) len cap ∧ nv = .slice (some ⟨F, 0, none⟩) len len ∧ base ≤ F ∧ len ≤ B ∧
      ∀ i, i < len → ∃ kd fl ln cl tx ag p nag, LAt w0 b (off + i * 6) kd fl ln cl tx ag ∧ tx.size ≤ B ∧ w.cell? ⟨F, i, none⟩ = some (.pointer (some ⟨p, 0, none⟩)) ∧ base ≤ p ∧ LAt w p 0 kd fl ln cl tx nag ∧ PConv B base w0 w n ag nag

theorem pcell_stay {w w' : World} {base : Nat} (hs : ∀ j, base ≤ j → j < w.heap.size → w'.heap[j]? = w.heap[j]?) {b o : Nat} (hb : base ≤ b) {v : Value} (h : w.cell? ⟨b, o, none⟩ = some v) : w'.cell? ⟨b, o, none⟩ = some v :=
  (World.cell?_of_block (w := w) (a := ⟨b, o, none⟩) (hs b hb (cell_lt h))).trans h
theorem LAt.pstay {w w' : World} {base b o : Nat} {kd : Int} {fl : ByteArray} {ln cl : Int} {tx : ByteArray} {ag : Value} (hs : ∀ j, base ≤ j → j < w.heap.size → w'.heap[j]? = w.heap[j]?) (hb : base ≤ b) (h : LAt w b o kd fl ln cl tx ag) : LAt w' b o kd fl ln cl tx ag :=
  ⟨pcell_stay hs hb h.c0, pcell_stay hs hb h.c1, pcell_stay hs hb h.c2, pcell_stay hs hb h.c3, pcell_stay hs hb h.c4, pcell_stay hs hb h.c5⟩
theorem PConv.stay {B base : Nat} {w0 w w' : World} (hs : ∀ j, base ≤ j → j < w.heap.size → w'.heap[j]? = w.heap[j]?) : ∀ {n : Nat} {v nv : Value}, PConv B base w0 w n v nv → PConv B base w0 w' n v nv
  | 0, v, nv, h => h
  | n + 1, v, nv, h => by
    rcases h with h | ⟨b, off, len, cap, F, rfl, rfl, hF, hl, he⟩
    · exact .inl h
    · refine .inr ⟨b, off, len, cap, F, rfl, rfl, hF, hl, fun i hi => ?_⟩
      obtain ⟨kd, fl, ln, cl, tx, ag, p, nag, h1, h2, h3, h4, h5, h6⟩ := he i hi
      exact ⟨kd, fl, ln, cl, tx, ag, p, nag, h1, h2, pcell_stay hs hF h3, h4, h5.pstay hs h4, PConv.stay hs h6⟩
theorem PConv.mono {B base base' : Nat} {w0 w : World} (hb : base' ≤ base) : ∀ {n : Nat} {v nv : Value}, PConv B base w0 w n v nv → PConv B base' w0 w n v nv
  | 0, v, nv, h => h
  | n + 1, v, nv, h => by
    rcases h with h | ⟨b, off, len, cap, F, rfl, rfl, hF, hl, he⟩
    · exact .inl h
    · refine .inr ⟨b, off, len, cap, F, rfl, rfl, by omega, hl, fun i hi => ?_⟩
      obtain ⟨kd, fl, ln, cl, tx, ag, p, nag, h1, h2, h3, h4, h5, h6⟩ := he i hi
      exact ⟨kd, fl, ln, cl, tx, ag, p, nag, h1, h2, h3, by omega, h5, PConv.mono hb h6⟩

theorem PConv.slice {B base : Nat} {w0 w : World} : ∀ {n : Nat} {v nv : Value}, PConv B base w0 w n v nv → ∃ a l c, nv = .slice a l c
  | 0, v, nv, ⟨_, a, h⟩ => ⟨a, 0, 0, h⟩
  | n + 1, v, nv, h => by
    rcases h with ⟨_, a, h⟩ | ⟨b, off, len, cap, F, _, h, _⟩
    · exact ⟨a, 0, 0, h⟩
    · exact ⟨_, _, _, h⟩

theorem pinfo27 : (Tryd.prog.info? 27).map (fun i => (i.zero, i.size, i.bytes)) = some (some (.pointer none), 1, 8) := by kernel_rfl
theorem pmake27 (n : Nat) (hn : n ≤ 1048576) (u : World) : (Instr.makeSlice 25 (.int .i64 (n : Int)) (.int .i64 (n : Int))).run Tryd.prog u = .ok (.slice (some ⟨u.heap.size, 0, none⟩) n n) (u.alloc (.cells (madeCells #[.pointer none] n) 27)) := by
  obtain ⟨i, hi, h⟩ := Option.map_eq_some_iff.1 pinfo27
  obtain ⟨hz, hs, hb⟩ : i.zero = some (.pointer none) ∧ i.size = 1 ∧ i.bytes = 8 := by simpa using h
  have := run_make (P := Tryd.prog) u 25 27 i (.pointer none) Tryd.underlying25 hi hz .i64 .i64 n n (by omega) (Int.le_refl _) (by rw [hb]; omega) (by omega)
  simpa [hs, Value.cells] using this

/-- after k rounds of toNodes: F the block of the new slice. -/
structure PNodesTo (B : Nat) (w0 w wr : World) (n b off len k : Nat) : Prop where
  size : w.heap.size + 1 ≤ wr.heap.size
  below : Below w.heap.size w wr
  free : ∀ i, i < len → wr.frozen? ⟨w.heap.size, i, none⟩ = false
  rest : ∀ i, k ≤ i → i < len → wr.cell? ⟨w.heap.size, i, none⟩ = some (.pointer none)
  done : ∀ i, i < k → ∃ kd fl ln cl tx ag p nag, LAt w0 b (off + i * 6) kd fl ln cl tx ag ∧ tx.size ≤ B ∧ wr.cell? ⟨w.heap.size, i, none⟩ = some (.pointer (some ⟨p, 0, none⟩)) ∧ w.heap.size + 1 ≤ p ∧ LAt wr p 0 kd fl ln cl tx nag ∧ PConv B (w.heap.size + 1) w0 wr n ag nag

theorem PNodesTo.start (B : Nat) (w0 w : World) (n b off len : Nat) : PNodesTo B w0 w (w.alloc (.cells (madeCells #[.pointer none] len) 27)) n b off len 0 where
  size := by simp
  below := (Below.refl _ w).alloc (Nat.le_refl _) _
  free := fun i hi => by simp
  rest := fun i _ hi => by
    have : (madeCells #[.pointer none] len)[i]? = some (.pointer none) := by simp [madeCells, hi, Nat.mod_one]
    simp [this]
  done := fun i hi => by omega

/-- a store into block F and a new block: every other block is as it was. -/
theorem pheap_put_alloc (w2 : World) (F o : Nat) (v : Value) (x : Obj) (j : Nat) (hj : j < w2.heap.size) (hne : j ≠ F) : ((w2.setCell ⟨F, o, none⟩ v).alloc x).heap[j]? = w2.heap[j]? := by
  have hs : (w2.setCell ⟨F, o, none⟩ v).heap.size = w2.heap.size := by simp
  have h1 := ((Below.refl (w2.setCell ⟨F, o, none⟩ v).heap.size (w2.setCell ⟨F, o, none⟩ v)).alloc (Nat.le_refl _) x).block j (by rw [hs]; exact hj)
  rw [h1]
  exact Below.heap_setCell _ _ _ _ hne

theorem PNodesTo.step {B : Nat} {w0 w wr w2 : World} {n b off len k : Nat} (HT : PNodesTo B w0 w wr n b off len k) (hlt : k < len) {kd : Int} {fl : ByteArray} {ln cl : Int} {tx : ByteArray} {ag : Value} {na : Option Addr} {nl nc : Nat} {X : Obj}
    (hA : LAt w0 b (off + k * 6) kd fl ln cl tx ag) (htx : tx.size ≤ B) (hcv : PConv B (wr.heap.size + 1) w0 w2 n ag (.slice na nl nc)) (hbx : Below (wr.heap.size + 1) (wr.alloc X) w2) :
    PNodesTo B w0 w ((w2.setCell ⟨w.heap.size, k, none⟩ (.pointer (some ⟨w2.heap.size, 0, none⟩))).alloc (.cells #[.int .i64 kd, .string fl, .int .i64 ln, .int .i64 cl, .string tx, .slice na nl nc] 32)) n b off len (k + 1) := by
  have hsz := HT.size
  have hs2 : wr.heap.size + 1 ≤ w2.heap.size := by have := hbx.size; simpa using this
  have hsr : (w2.setCell ⟨w.heap.size, k, none⟩ (.pointer (some ⟨w2.heap.size, 0, none⟩))).heap.size = w2.heap.size := by simp
  have hwr : Below wr.heap.size wr w2 := ((Below.refl wr.heap.size wr).alloc (Nat.le_refl _) X).trans (hbx.mono (by omega))
  have hnew : ∀ o, ((w2.setCell ⟨w.heap.size, k, none⟩ (.pointer (some ⟨w2.heap.size, 0, none⟩))).alloc (.cells #[.int .i64 kd, .string fl, .int .i64 ln, .int .i64 cl, .string tx, .slice na nl nc] 32)).cell? ⟨w2.heap.size, o, none⟩ = (#[.int .i64 kd, .string fl, .int .i64 ln, .int .i64 cl, .string tx, .slice na nl nc] : Array Value)[o]? := fun o => World.cell?_alloc_at _ _ _ _ (by rw [hsr])
  have hstay : ∀ j, w.heap.size + 1 ≤ j → j < wr.heap.size → ((w2.setCell ⟨w.heap.size, k, none⟩ (.pointer (some ⟨w2.heap.size, 0, none⟩))).alloc (.cells #[.int .i64 kd, .string fl, .int .i64 ln, .int .i64 cl, .string tx, .slice na nl nc] 32)).heap[j]? = wr.heap[j]? := fun j h1 h2 => by
    rw [pheap_put_alloc _ _ _ _ _ _ (by omega) (by omega)]; exact hwr.block j h2
  have hcF : ∀ i, i ≠ k → ((w2.setCell ⟨w.heap.size, k, none⟩ (.pointer (some ⟨w2.heap.size, 0, none⟩))).alloc (.cells #[.int .i64 kd, .string fl, .int .i64 ln, .int .i64 cl, .string tx, .slice na nl nc] 32)).cell? ⟨w.heap.size, i, none⟩ = wr.cell? ⟨w.heap.size, i, none⟩ := fun i hi => by
    rw [World.cell?_alloc_lt _ _ _ (by rw [hsr]; show w.heap.size < _; omega), World.cell?_setCell_other _ _ _ _ (by intro x; injection x with _ x _; exact hi x.symm)]
    exact hwr.cell (p := ⟨w.heap.size, i, none⟩) (by show w.heap.size < _; omega)
  refine ⟨by simp; omega, ?_, ?_, ?_, ?_⟩
  · exact ((HT.below.trans (hwr.mono (by omega))).setCell (Nat.le_refl _) _).alloc (by rw [hsr]; omega) _
  · intro i hi
    rw [World.frozen?_alloc_past _ _ _ (by rw [hsr]; omega), World.frozen?_setCell, hwr.frozen (p := ⟨w.heap.size, i, none⟩) (by show w.heap.size < _; omega)]
    exact HT.free i hi
  · intro i h1 h2
    rw [hcF i (by omega)]
    exact HT.rest i (by omega) h2
  · intro i hi
    by_cases e : i = k
    · subst e
      refine ⟨kd, fl, ln, cl, tx, ag, w2.heap.size, .slice na nl nc, hA, htx, ?_, by omega, ⟨hnew 0, hnew 1, hnew 2, hnew 3, hnew 4, hnew 5⟩, ?_⟩
      · rw [World.cell?_alloc_lt _ _ _ (by rw [hsr]; show w.heap.size < _; omega)]
        have hold : w2.cell? ⟨w.heap.size, i, none⟩ = some (.pointer none) := by
          rw [hwr.cell (p := ⟨w.heap.size, i, none⟩) (by show w.heap.size < _; omega)]; exact HT.rest i (Nat.le_refl _) hlt
        exact World.cell?_setCell_same _ _ _ hold
      · exact (hcv.stay (fun j h1 h2 => pheap_put_alloc _ _ _ _ _ _ h2 (by omega))).mono (by omega)
    · obtain ⟨kd', fl', ln', cl', tx', ag', p', nag', h1, h2, h3, h4, h5, h6⟩ := HT.done i (by omega)
      exact ⟨kd', fl', ln', cl', tx', ag', p', nag', h1, h2, by rw [hcF i e]; exact h3, h4, h5.pstay hstay h4, h6.stay hstay⟩

set_option maxRecDepth 100000 in
set_option maxHeartbeats 4000000 in
theorem pNodes_step (B n : Nat) (hB : B ≤ 1048576) (w0 : World)
    (IH : ∀ (v : Value) (w : World), LF B w0 n v → Below w0.heap.size w0 w → Calls Tryd.prog 8 #[v] w fun e w' => ∃ nv, e = .returned nv ∧ PConv B w.heap.size w0 w' n v nv ∧ Below w.heap.size w w')
    (b off len cap : Nat) (w : World) (hl : len ≤ B) (hb0 : Below w0.heap.size w0 w)
    (he : ∀ i, i < len → ∃ kd fl ln cl tx ag, LAt w0 b (off + i * 6) kd fl ln cl tx ag ∧ fl.size ≤ B ∧ tx.size ≤ B ∧ LF B w0 n ag) :
    Calls Tryd.prog 8 #[.slice (some ⟨b, off, none⟩) len cap] w fun e w' => ∃ nv, e = .returned nv ∧ PConv B w.heap.size w0 w' (n + 1) (.slice (some ⟨b, off, none⟩) len cap) nv ∧ Below w.heap.size w w' := by
  have hmk := pmake27 len (by omega)
  have heq := fun u => Lib.run_eql_slice_nil (P := Tryd.prog) u 22 46 (some ⟨b, off, none⟩) len cap 0 0 Tryd.underlying22
  have HI : Hid (∀ (v : Value) (w : World), LF B w0 n v → Below w0.heap.size w0 w → Calls Tryd.prog 8 #[v] w fun e w' => ∃ nv, e = .returned nv ∧ PConv B w.heap.size w0 w' n v nv ∧ Below w.heap.size w w') := IH
  have HE : Hid (∀ i, i < len → ∃ kd fl ln cl tx ag, LAt w0 b (off + i * 6) kd fl ln cl tx ag ∧ fl.size ≤ B ∧ tx.size ≤ B ∧ LF B w0 n ag) := he
  clear IH he
  have hsz0 := hb0.size
  go_enter Tryd.func8, Tryd.ntmps8
  go_wp2
  go_loopw [4] (fun i wx => ∃ k : Nat, k ≤ len ∧ i = .int .i64 k ∧ PNodesTo B w0 w wx n b off len k) (fun i _ => len - (intOf i).toNat)
  case atStart => exact ⟨0, Nat.zero_le _, rfl, PNodesTo.start B w0 w n b off len⟩
  case round =>
    obtain ⟨k, hk, rfl, HT⟩ := hrel
    clear hmk heq
    by_cases hlt : k < len
    · obtain ⟨kd, fl, ln, cl, tx, ag, hA, hfl, htx, hag⟩ := HE.out k hlt
      obtain ⟨ga, gl, gc, rfl⟩ := hag.slice
      have hAr : LAt wr b (off + k * 6) kd fl ln cl tx (.slice ga gl gc) := (hA.below hb0).below HT.below
      obtain ⟨c0, c1, c2, c3, c4, c5⟩ := hAr
      have hF1 := HT.rest k (Nat.le_refl _) hlt
      have hF2 := HT.free k hlt
      have hsz := HT.size
      have HX : Hid (∀ u, Below (wr.heap.size + 1) (wr.alloc (.cells #[.int .i64 kd, .string fl, .int .i64 ln, .int .i64 cl, .string tx, .slice ga gl gc] 46)) u →
          Calls Tryd.prog 8 #[.slice ga gl gc] u fun e w' => ∃ na nl nc, e = .returned (.slice na nl nc) ∧
            (w'.cell? ⟨wr.heap.size, 0, none⟩ = some (.int .i64 kd) ∧ w'.cell? ⟨wr.heap.size, 1, none⟩ = some (.string fl) ∧ w'.cell? ⟨wr.heap.size, 2, none⟩ = some (.int .i64 ln) ∧ w'.cell? ⟨wr.heap.size, 3, none⟩ = some (.int .i64 cl) ∧ w'.cell? ⟨wr.heap.size, 4, none⟩ = some (.string tx) ∧ w'.cell? ⟨wr.heap.size, 5, none⟩ = some (.slice ga gl gc)) ∧
            w'.cell? ⟨w.heap.size, k, none⟩ = some (.pointer none) ∧ w'.frozen? ⟨w.heap.size, k, none⟩ = false ∧ w.heap.size < w'.heap.size ∧
            Hid (PConv B (wr.heap.size + 1) w0 w' n (.slice ga gl gc) (.slice na nl nc) ∧ Below (wr.heap.size + 1) (wr.alloc (.cells #[.int .i64 kd, .string fl, .int .i64 ln, .int .i64 cl, .string tx, .slice ga gl gc] 46)) w')) := by
        intro u hu
        have hus := hu.size
        have hss : (wr.alloc (.cells #[.int .i64 kd, .string fl, .int .i64 ln, .int .i64 cl, .string tx, .slice ga gl gc] 46)).heap.size = wr.heap.size + 1 := by simp
        rw [hss] at hus
        have hbu : Below w0.heap.size w0 u := hb0.trans ((HT.below.mono (by omega)).trans (((Below.refl wr.heap.size wr).alloc (Nat.le_refl _) _ |>.mono (by omega)).trans (hu.mono (by omega))))
        refine (HI.out (.slice ga gl gc) u hag hbu).mono ?_
        rintro e w' ⟨nv, rfl, hcv, hb'⟩
        obtain ⟨na, nl, nc, rfl⟩ := hcv.slice
        have hbx : Below (wr.heap.size + 1) (wr.alloc (.cells #[.int .i64 kd, .string fl, .int .i64 ln, .int .i64 cl, .string tx, .slice ga gl gc] 46)) w' := hu.trans (hb'.mono hus)
        have hx : ∀ o v, (wr.alloc (.cells #[.int .i64 kd, .string fl, .int .i64 ln, .int .i64 cl, .string tx, .slice ga gl gc] 46)).cell? ⟨wr.heap.size, o, none⟩ = some v → w'.cell? ⟨wr.heap.size, o, none⟩ = some v := fun o v h => (hbx.cell (p := ⟨wr.heap.size, o, none⟩) (by show wr.heap.size < _; omega)).trans h
        refine ⟨na, nl, nc, rfl, ⟨hx 0 _ (by simp), hx 1 _ (by simp), hx 2 _ (by simp), hx 3 _ (by simp), hx 4 _ (by simp), hx 5 _ (by simp)⟩, ?_, ?_, ?_, hcv.mono hus, hbx⟩
        · rw [hbx.cell (p := ⟨w.heap.size, k, none⟩) (by show w.heap.size < _; omega), World.cell?_alloc_lt _ _ _ (by show w.heap.size < _; omega)]; exact hF1
        · rw [hbx.frozen (p := ⟨w.heap.size, k, none⟩) (by show w.heap.size < _; omega), World.frozen?_alloc_past _ _ _ (by show w.heap.size < _; omega)]; exact hF2
        · have := hbx.size; rw [hss] at this; omega
      have i1 : (k : Int) < (len : Int) := by omega
      have hne : w.heap.size ≠ wr.heap.size := by omega
      go_wp2_with fail
      go_region_held3 (fun u => u.cell? ⟨wr.heap.size, 0, none⟩ = some (.int .i64 kd) ∧ u.cell? ⟨wr.heap.size, 1, none⟩ = some (.string fl) ∧ u.cell? ⟨wr.heap.size, 2, none⟩ = some (.int .i64 ln) ∧ u.cell? ⟨wr.heap.size, 3, none⟩ = some (.int .i64 cl) ∧ u.cell? ⟨wr.heap.size, 4, none⟩ = some (.string tx) ∧ u.cell? ⟨wr.heap.size, 5, none⟩ = some (.slice ga gl gc)) (go_keep)
        ((go_at_call 8; refine (HX.out _ (by repeat (first | exact Below.refl _ _ | refine Below.drew ?_))).mono ?_; rintro e w2 ⟨na, nl, nc, rfl, hxs, hf1, hf2, hlt2, hcb⟩))
      have HS := HT.step hlt hA htx hcb.out.1 hcb.out.2
      go_wp2_with fail
      go_roundw
      case rel => exact ⟨k + 1, by omega, by go_num, HS⟩
      case measure => simp [intOf]; omega
    · obtain rfl : k = len := by omega
      go_wp2_with fail
      go_ret
      refine ⟨_, rfl, ?_, HT.below⟩
      refine .inr ⟨b, off, k, cap, w.heap.size, rfl, rfl, Nat.le_refl _, hl, fun i hi => ?_⟩
      obtain ⟨kd, fl, ln, cl, tx, ag, p, nag, h1, h2, h3, h4, h5, h6⟩ := HT.done i hi
      exact ⟨kd, fl, ln, cl, tx, ag, p, nag, h1, h2, h3, by omega, h5, h6.mono (by omega)⟩

set_option maxRecDepth 100000 in
set_option maxHeartbeats 1000000 in
theorem pNodes_empty (B n : Nat) (w0 w : World) (a : Option Addr) (c : Nat) (hc : a = none → c = 0) :
    Calls Tryd.prog 8 #[.slice a 0 c] w fun e w' => ∃ nv, e = .returned nv ∧ PConv B w.heap.size w0 w' n (.slice a 0 c) nv ∧ Below w.heap.size w w' := by
  have HC : Hid (∀ (w' : World) (a' : Option Addr), PConv B w.heap.size w0 w' n (.slice a 0 c) (.slice a' 0 0)) := fun w' a' => by
    cases n with
    | zero => exact ⟨⟨a, c, rfl, hc⟩, ⟨a', rfl⟩⟩
    | succ n => exact .inl ⟨⟨a, c, rfl, hc⟩, ⟨a', rfl⟩⟩
  cases a with
  | none =>
    obtain rfl := hc rfl
    have heq := fun u => Lib.run_eql_slice_nil (P := Tryd.prog) u 22 46 none 0 0 0 0 Tryd.underlying22
    clear hc
    go_enter Tryd.func8, Tryd.ntmps8
    go_wp2
    go_ret
    exact ⟨_, rfl, HC.out w none, Below.refl _ _⟩
  | some A =>
    have heq := fun u => Lib.run_eql_slice_nil (P := Tryd.prog) u 22 46 (some A) 0 c 0 0 Tryd.underlying22
    have hmk := fun u => (show (Instr.makeSlice 25 (.int .i64 0) (.int .i64 0)).run Tryd.prog u = .ok (.slice (some ⟨u.heap.size, 0, none⟩) 0 0) (u.alloc (.cells (madeCells #[.pointer none] 0) 27)) from pmake27 0 (by omega) u)
    clear hc
    go_enter Tryd.func8, Tryd.ntmps8
    go_wp2
    go_loopw [4] (fun i wx => i = .int .i64 0 ∧ wx = w.alloc (.cells (madeCells #[.pointer none] 0) 27)) (fun i _ => 0)
    case atStart => exact ⟨rfl, rfl⟩
    case round =>
      obtain ⟨rfl, rfl⟩ := hrel
      clear hmk heq
      go_wp2
      go_ret
      exact ⟨_, rfl, HC.out _ _, (Below.refl _ w).alloc (Nat.le_refl _) _⟩

theorem pNodes_any (B : Nat) (hB : B ≤ 1048576) (w0 : World) : ∀ (n : Nat) (v : Value) (w : World), LF B w0 n v → Below w0.heap.size w0 w → Calls Tryd.prog 8 #[v] w fun e w' => ∃ nv, e = .returned nv ∧ PConv B w.heap.size w0 w' n v nv ∧ Below w.heap.size w w'
  | 0, v, w, h, hb => by
    obtain ⟨a, c, rfl, hc⟩ := h
    exact pNodes_empty B 0 w0 w a c hc
  | n + 1, v, w, h, hb => by
    rcases h with ⟨a, c, rfl, hc⟩ | ⟨b, off, len, cap, rfl, hl, he⟩
    · exact pNodes_empty B (n + 1) w0 w a c hc
    · exact pNodes_step B n hB w0 (fun v w => pNodes_any B hB w0 n v w) b off len cap w hl hb he
end Go.Proofs.Qxb6604659aDoor
