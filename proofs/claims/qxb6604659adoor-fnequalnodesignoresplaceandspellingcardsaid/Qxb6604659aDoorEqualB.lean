/-
  SEAT b6604659aD: (*Node).Equal at two nodes that are no words.
-/
import Derived.Test.Qxb6604659aDoorSim
namespace Go.Proofs.Qxb6604659aDoor
open Go Go.RowKit
set_option linter.unusedVariables false
set_option linter.unusedSimpArgs false

set_option maxRecDepth 100000 in
set_option maxHeartbeats 4000000 in
theorem equal_rest (n : Nat) (IH : ∀ (x y : Value) (w : World), w.ShapedOpen Tryd.prog → Sim w n x y → Calls Tryd.prog 9 #[x, y] w fun e w' => e = .returned (.bool true) ∧ Below w.heap.size w w')
    (p q : Nat) (kd : Int) (tx ty : ByteArray) (ax ay : Value) (w : World) (hsh : w.ShapedOpen Tryd.prog) (hp : NAt w p kd tx ax) (hq : NAt w q kd ty ay) (htx : tx.size ≤ 1048576) (hty : ty.size ≤ 1048576)
    (hkd : kd ≠ 1) (htt : canon tx.data.toList = canon ty.data.toList) (hs : Sim w n ax ay) :
    Calls Tryd.prog 17 #[.pointer (some ⟨p, 0, none⟩), .pointer (some ⟨q, 0, none⟩)] w fun e w' => e = .returned (.bool true) ∧ Below w.heap.size w w' := by
  obtain ⟨⟨xa, xl, xc, rfl⟩, ⟨ya, yl, yc, rfl⟩⟩ := hs.slice
  have HI : Hid (∀ u, Below w.heap.size w u → Calls Tryd.prog 9 #[.slice xa xl xc, .slice ya yl yc] u fun e w' => e = .returned (.bool true) ∧ Below u.heap.size u w') := fun u hu => IH _ _ u (shaped_below hsh hu) (hs.below hu)
  have HK1 : Hid (∀ u, Below w.heap.size w u → Calls Tryd.prog 18 #[.pointer (some ⟨p, 0, none⟩)] u fun e w' => e = .returned (.string (canonB tx)) ∧ Below u.heap.size u w') := fun u hu => key_any p tx u (shaped_below hsh hu) (hp.below hu).c4 htx
  have HK2 : Hid (∀ u, Below w.heap.size w u → Calls Tryd.prog 18 #[.pointer (some ⟨q, 0, none⟩)] u fun e w' => e = .returned (.string (canonB ty)) ∧ Below u.heap.size u w') := fun u hu => key_any q ty u (shaped_below hsh hu) (hq.below hu).c4 hty
  clear IH hs hsh
  have HP := hp
  have HQ := hq
  obtain ⟨p0, p4, p5⟩ := hp
  obtain ⟨q0, q4, q5⟩ := hq
  have hv : (kd == 1) = false := beq_eq_false_iff_ne.2 hkd
  have hv2 : (kd != 1) = true := bne_iff_ne.2 hkd
  have hcan : canonB tx = canonB ty := by unfold canonB; rw [htt]
  rw [hcan] at HK1
  clear htt hkd hcan
  generalize canonB ty = ky at HK1 HK2
  go_enter Tryd.func17, Tryd.ntmps17
  go_wp2
  go_quiet (fail)
  have HB : Below w.heap.size w (w.drewN nq) := below_drewN w nq
  have p0' := (HP.below HB).c0
  generalize w.drewN nq = wq at HB p0' ⊢
  clear p0 p4 p5 q0 q4 q5
  have HBQ : Hid (Below w.heap.size w wq) := HB
  clear HB
  go_wp2
  refine wp_region_split (fun R hR => ?_)
  have HR : Hid (Hid _) := hR
  clear hR
  refine wp_region_held_drew (S := fun u => u.cell? ⟨p, 0, none⟩ = some (.int .i64 kd)) (by kernel_rfl) (by simpa using p0') (fun hHeld => ?_)
  refine wpAnyH_takeAt (i := 0) 14 (v := (.pointer (some ⟨p, 0, none⟩))) rfl (by kernel_rfl) (by kernel_rfl) (by kernel_rfl) (by kernel_rfl) (fun _ _ _ h => h) (Or.inl ⟨by kernel_rfl, by intro w hSw; go_simp⟩) (by assumption) ?_
  simp only [Act.put, List.setIfInBounds_toArray, List.set_cons_zero, List.set_cons_succ]
  refine wpAnyH_takeAt (i := 1) 15 (v := (.pointer (some ⟨p, 0, none⟩))) rfl (by kernel_rfl) (by kernel_rfl) (by kernel_rfl) (by kernel_rfl) (fun _ _ _ h => h) (Or.inl ⟨by kernel_rfl, by intro w hSw; go_simp⟩) (by assumption) ?_
  simp only [Act.put, List.setIfInBounds_toArray, List.set_cons_zero, List.set_cons_succ]
  refine wpAnyH_takeAt (i := 2) 16 (v := (.pointer (some ⟨p, 0, none⟩))) rfl (by kernel_rfl) (by kernel_rfl) (by kernel_rfl) (by kernel_rfl) (fun _ _ _ h => h) (Or.inl ⟨by kernel_rfl, by intro w hSw; go_simp⟩) (by assumption) ?_
  simp only [Act.put, List.setIfInBounds_toArray, List.set_cons_zero, List.set_cons_succ]
  refine wpAnyH_takeAt (i := 3) 17 (v := (.int .i64 kd)) rfl (by kernel_rfl) (by kernel_rfl) (by kernel_rfl) (by kernel_rfl) (fun _ _ _ h => h) (Or.inl ⟨by kernel_rfl, by intro w hSw; go_simp⟩) (by assumption) ?_
  simp only [Act.put, List.setIfInBounds_toArray, List.set_cons_zero, List.set_cons_succ]
  refine wpAnyH_takeAt (i := 4) 18 (v := (.bool false)) rfl (by kernel_rfl) (by kernel_rfl) (by kernel_rfl) (by kernel_rfl) (fun _ _ _ h => h) (Or.inl ⟨by kernel_rfl, by intro w hSw; go_simp⟩) (by assumption) ?_
  simp only [Act.put, List.setIfInBounds_toArray, List.set_cons_zero, List.set_cons_succ]
  refine wpAnyH_takeAt (i := 5) 19 (v := (.bool false)) rfl (by kernel_rfl) (by kernel_rfl) (by kernel_rfl) (by kernel_rfl) (fun _ _ _ h => h) (Or.inl ⟨by kernel_rfl, by intro w hSw; go_simp⟩) (by assumption) ?_
  simp only [Act.put, List.setIfInBounds_toArray, List.set_cons_zero, List.set_cons_succ]
  refine wpAnyH_takeAt (i := 6) 20 (v := undef) rfl (by kernel_rfl) (by kernel_rfl) (by kernel_rfl) (by kernel_rfl) (fun _ _ _ h => h) (Or.inr ⟨by kernel_rfl, rfl⟩) (by assumption) ?_
  simp only [Act.put, List.setIfInBounds_toArray, List.set_cons_zero, List.set_cons_succ]
  refine wpAnyH_takeAt (i := 7) 21 (v := undef) rfl (by kernel_rfl) (by kernel_rfl) (by kernel_rfl) (by kernel_rfl) (fun _ _ _ h => h) (Or.inr ⟨by kernel_rfl, rfl⟩) (by assumption) ?_
  simp only [Act.put, List.setIfInBounds_toArray, List.set_cons_zero, List.set_cons_succ]
  refine wpAnyH_takeAt (i := 8) 22 (v := undef) rfl (by kernel_rfl) (by kernel_rfl) (by kernel_rfl) (by kernel_rfl) (fun _ _ _ h => h) (Or.inr ⟨by kernel_rfl, rfl⟩) (by assumption) ?_
  simp only [Act.put, List.setIfInBounds_toArray, List.set_cons_zero, List.set_cons_succ]
  refine wpAnyH_takeAt (i := 9) 23 (v := undef) rfl (by kernel_rfl) (by kernel_rfl) (by kernel_rfl) (by kernel_rfl) (fun _ _ _ h => h) (Or.inr ⟨by kernel_rfl, rfl⟩) (by assumption) ?_
  simp only [Act.put, List.setIfInBounds_toArray, List.set_cons_zero, List.set_cons_succ]
  refine wpAnyH_takeAt (i := 10) 24 (v := undef) rfl (by kernel_rfl) (by kernel_rfl) (by kernel_rfl) (by kernel_rfl) (fun _ _ _ h => h) (Or.inr ⟨by kernel_rfl, rfl⟩) (by assumption) ?_
  simp only [Act.put, List.setIfInBounds_toArray, List.set_cons_zero, List.set_cons_succ]
  refine wpAnyH_takeAt (i := 11) 25 (v := undef) rfl (by kernel_rfl) (by kernel_rfl) (by kernel_rfl) (by kernel_rfl) (fun _ _ _ h => h) (Or.inr ⟨by kernel_rfl, rfl⟩) (by assumption) ?_
  simp only [Act.put, List.setIfInBounds_toArray, List.set_cons_zero, List.set_cons_succ]
  refine wpAnyH_takeAt (i := 12) 26 (v := undef) rfl (by kernel_rfl) (by kernel_rfl) (by kernel_rfl) (by kernel_rfl) (fun _ _ _ h => h) (Or.inr ⟨by kernel_rfl, rfl⟩) (by assumption) ?_
  simp only [Act.put, List.setIfInBounds_toArray, List.set_cons_zero, List.set_cons_succ]
  refine wpAnyH_takeAt (i := 13) 27 (v := undef) rfl (by kernel_rfl) (by kernel_rfl) (by kernel_rfl) (by kernel_rfl) (fun _ _ _ h => h) (Or.inr ⟨by kernel_rfl, rfl⟩) (by assumption) ?_
  simp only [Act.put, List.setIfInBounds_toArray, List.set_cons_zero, List.set_cons_succ]
  refine wpAnyH_takeAt (i := 14) 28 (v := undef) rfl (by kernel_rfl) (by kernel_rfl) (by kernel_rfl) (by kernel_rfl) (fun _ _ _ h => h) (Or.inr ⟨by kernel_rfl, rfl⟩) (by assumption) ?_
  simp only [Act.put, List.setIfInBounds_toArray, List.set_cons_zero, List.set_cons_succ]
  refine wpAnyH_takeAt (i := 15) 29 (v := (.bool false)) rfl (by kernel_rfl) (by kernel_rfl) (by kernel_rfl) (by kernel_rfl) (fun _ _ _ h => h) (Or.inl ⟨by kernel_rfl, by intro w hSw; go_simp⟩) (by assumption) ?_
  simp only [Act.put, List.setIfInBounds_toArray, List.set_cons_zero, List.set_cons_succ]
  refine wpAnyH_takeAt (i := 16) 30 (v := (.bool false)) rfl (by kernel_rfl) (by kernel_rfl) (by kernel_rfl) (by kernel_rfl) (fun _ _ _ h => h) (Or.inl ⟨by kernel_rfl, by intro w hSw; go_simp⟩) (by assumption) ?_
  simp only [Act.put, List.setIfInBounds_toArray, List.set_cons_zero, List.set_cons_succ]
  refine wpAnyH_takeAt (i := 17) 31 (v := (.pointer (some ⟨p, 0, none⟩))) rfl (by kernel_rfl) (by kernel_rfl) (by kernel_rfl) (by kernel_rfl) (fun _ _ _ h => h) (Or.inl ⟨by kernel_rfl, by intro w hSw; go_simp⟩) (by assumption) ?_
  simp only [Act.put, List.setIfInBounds_toArray, List.set_cons_zero, List.set_cons_succ]
  refine wpAnyH_takeAt (i := 18) 32 (v := (.pointer (some ⟨p, 0, none⟩))) rfl (by kernel_rfl) (by kernel_rfl) (by kernel_rfl) (by kernel_rfl) (fun _ _ _ h => h) (Or.inl ⟨by kernel_rfl, by intro w hSw; go_simp⟩) (by assumption) ?_
  simp only [Act.put, List.setIfInBounds_toArray, List.set_cons_zero, List.set_cons_succ]
  refine wpAnyH_takeAt (i := 19) 33 (v := (.pointer (some ⟨p, 0, none⟩))) rfl (by kernel_rfl) (by kernel_rfl) (by kernel_rfl) (by kernel_rfl) (fun _ _ _ h => h) (Or.inl ⟨by kernel_rfl, by intro w hSw; go_simp⟩) (by assumption) ?_
  simp only [Act.put, List.setIfInBounds_toArray, List.set_cons_zero, List.set_cons_succ]
  refine wpAnyH_takeAt (i := 20) 34 (v := (.int .i64 kd)) rfl (by kernel_rfl) (by kernel_rfl) (by kernel_rfl) (by kernel_rfl) (fun _ _ _ h => h) (Or.inl ⟨by kernel_rfl, by intro w hSw; go_simp⟩) (by assumption) ?_
  simp only [Act.put, List.setIfInBounds_toArray, List.set_cons_zero, List.set_cons_succ]
  refine wpAnyH_takeAt (i := 21) 35 (v := (.bool true)) rfl (by kernel_rfl) (by kernel_rfl) (by kernel_rfl) (by kernel_rfl) (fun _ _ _ h => h) (Or.inl ⟨by kernel_rfl, by intro w hSw; go_simp⟩) (by assumption) ?_
  simp only [Act.put, List.setIfInBounds_toArray, List.set_cons_zero, List.set_cons_succ]
  refine wpAnyH_takeAt (i := 22) 36 (v := (.bool true)) rfl (by kernel_rfl) (by kernel_rfl) (by kernel_rfl) (by kernel_rfl) (fun _ _ _ h => h) (Or.inl ⟨by kernel_rfl, by intro w hSw; go_simp⟩) (by assumption) ?_
  simp only [Act.put, List.setIfInBounds_toArray, List.set_cons_zero, List.set_cons_succ]
  refine wpAnyH_takeAt (i := 23) 37 (v := (.pointer (some ⟨p, 0, none⟩))) rfl (by kernel_rfl) (by kernel_rfl) (by kernel_rfl) (by kernel_rfl) (fun _ _ _ h => h) (Or.inl ⟨by kernel_rfl, by intro w hSw; go_simp⟩) (by assumption) ?_
  simp only [Act.put, List.setIfInBounds_toArray, List.set_cons_zero, List.set_cons_succ]
  refine wpAnyH_takeAt (i := 25) 39 (v := (.pointer (some ⟨q, 0, none⟩))) rfl (by kernel_rfl) (by kernel_rfl) (by kernel_rfl) (by kernel_rfl) (fun _ _ _ h => h) (Or.inl ⟨by kernel_rfl, by intro w hSw; go_simp⟩) (by assumption) ?_
  simp only [Act.put, List.setIfInBounds_toArray, List.set_cons_zero, List.set_cons_succ]
  refine wpAnyH_ready (rs := [24]) (by kernel_rfl) (by simp) ?_
  refine AllReadyH.cons rfl (fun K hK => ?_) AllReadyH.nil
  rw [if_pos (by kernel_rfl)]
  go_simp
  refine (HK1.out _ HBQ.out.drew).mono ?_
  rintro e w2 ⟨rfl, hb2⟩
  have hb2' : Hid (Below w.heap.size w w2) := HBQ.out.drew.trans (hb2.mono HBQ.out.size)
  clear hb2
  refine hK.out _ _ ?_ (fun hHeld => ?_)
  · exact (HP.below hb2'.out).c0
  clear hK K
  try simp only [Act.put, List.setIfInBounds_toArray, List.set_cons_zero, List.set_cons_succ]
  refine wpAnyH_ready (rs := [26]) (by kernel_rfl) (by simp) ?_
  refine AllReadyH.cons rfl (fun K hK => ?_) AllReadyH.nil
  rw [if_pos (by kernel_rfl)]
  go_simp
  refine (HK2.out _ hb2'.out).mono ?_
  rintro e w3 ⟨rfl, hb3⟩
  have hb3' : Hid (Below w.heap.size w w3) := hb2'.out.trans (hb3.mono hb2'.out.size)
  clear hb3
  refine hK.out _ _ ?_ (fun hHeld => ?_)
  · exact (HP.below hb3'.out).c0
  clear hK K
  try simp only [Act.put, List.setIfInBounds_toArray, List.set_cons_zero, List.set_cons_succ]
  refine wpAnyH_takeAt (i := 27) 41 (v := (.bool false)) rfl (by kernel_rfl) (by kernel_rfl) (by kernel_rfl) (by kernel_rfl) (fun _ _ _ h => h) (Or.inl ⟨by kernel_rfl, by intro w hSw; go_simp⟩) (by assumption) ?_
  simp only [Act.put, List.setIfInBounds_toArray, List.set_cons_zero, List.set_cons_succ]
  refine wpAnyH_takeAt (i := 28) 42 (v := (.bool false)) rfl (by kernel_rfl) (by kernel_rfl) (by kernel_rfl) (by kernel_rfl) (fun _ _ _ h => h) (Or.inl ⟨by kernel_rfl, by intro w hSw; go_simp⟩) (by assumption) ?_
  simp only [Act.put, List.setIfInBounds_toArray, List.set_cons_zero, List.set_cons_succ]
  refine wpAnyH_takeAt (i := 29) 43 (v := (.bool false)) rfl (by kernel_rfl) (by kernel_rfl) (by kernel_rfl) (by kernel_rfl) (fun _ _ _ h => h) (Or.inl ⟨by kernel_rfl, by intro w hSw; go_simp⟩) (by assumption) ?_
  simp only [Act.put, List.setIfInBounds_toArray, List.set_cons_zero, List.set_cons_succ]
  refine wpAnyH_done (by kernel_rfl) (NoPanic.normal (HR.out.out _ _ ?_)) _
  clear HR R hHeld
  have p5' := (HP.below hb3'.out).c5
  have q5' := (HQ.below hb3'.out).c5
  go_wp2
  go_region_held3 (fun u => u.cell? ⟨p, 5, none⟩ = some (.slice xa xl xc) ∧ u.cell? ⟨q, 5, none⟩ = some (.slice ya yl yc)) (go_keep)
    ((go_at_call 9; refine (HI.out _ (by repeat (first | exact hb3'.out | refine Below.drew ?_))).mono ?_; rintro e w4 ⟨rfl, hb4⟩; have z1 := cell_below hb4 (by simpa using p5'); have z2 := cell_below hb4 (by simpa using q5')))
  have HF : Below w.heap.size w w4 := hb3'.out.drew.trans (hb4.mono hb3'.out.size)
  go_wp2
  go_ret
  exact ⟨rfl, HF⟩
end Go.Proofs.Qxb6604659aDoor
