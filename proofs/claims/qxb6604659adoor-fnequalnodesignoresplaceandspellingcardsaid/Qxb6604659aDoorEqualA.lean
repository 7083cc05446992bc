/-
  SEAT b6604659aD: (*Node).Equal at two nodes that are both words.
-/
import Derived.Test.Qxb6604659aDoorSim
namespace Go.Proofs.Qxb6604659aDoor
open Go Go.RowKit
set_option linter.unusedVariables false
set_option linter.unusedSimpArgs false

set_option maxRecDepth 100000 in
set_option maxHeartbeats 4000000 in
theorem equal_words (n : Nat) (IH : ∀ (x y : Value) (w : World), w.ShapedOpen Tryd.prog → Sim w n x y → Calls Tryd.prog 9 #[x, y] w fun e w' => e = .returned (.bool true) ∧ Below w.heap.size w w')
    (p q : Nat) (kd : Int) (tx ty : ByteArray) (ax ay : Value) (w : World) (hsh : w.ShapedOpen Tryd.prog) (hp : NAt w p kd tx ax) (hq : NAt w q kd ty ay) (htx : tx.size ≤ 1048576) (hty : ty.size ≤ 1048576)
    (hkd : kd = 1) (htt : tx = ty) (hs : Sim w n ax ay) :
    Calls Tryd.prog 17 #[.pointer (some ⟨p, 0, none⟩), .pointer (some ⟨q, 0, none⟩)] w fun e w' => e = .returned (.bool true) ∧ Below w.heap.size w w' := by
  obtain ⟨⟨xa, xl, xc, rfl⟩, ⟨ya, yl, yc, rfl⟩⟩ := hs.slice
  have HI : Hid (∀ u, Below w.heap.size w u → Calls Tryd.prog 9 #[.slice xa xl xc, .slice ya yl yc] u fun e w' => e = .returned (.bool true) ∧ Below u.heap.size u w') := fun u hu => IH _ _ u (shaped_below hsh hu) (hs.below hu)
  have HK1 : Hid (∀ u, Below w.heap.size w u → Calls Tryd.prog 18 #[.pointer (some ⟨p, 0, none⟩)] u fun e w' => e = .returned (.string (canonB tx)) ∧ Below u.heap.size u w') := fun u hu => key_any p tx u (shaped_below hsh hu) (hp.below hu).c4 htx
  have HK2 : Hid (∀ u, Below w.heap.size w u → Calls Tryd.prog 18 #[.pointer (some ⟨q, 0, none⟩)] u fun e w' => e = .returned (.string (canonB ty)) ∧ Below u.heap.size u w') := fun u hu => key_any q ty u (shaped_below hsh hu) (hq.below hu).c4 hty
  clear IH hs hsh
  have HP := hp
  have HQ := hq
  obtain ⟨p0, p4, p5⟩ := hp
  obtain ⟨q0, q4, q5⟩ := hq
  have hv : (kd == 1) = true := by rw [hkd]; rfl
  have hv2 : (kd != 1) = false := by rw [hkd]; rfl
  subst htt
  clear hkd
  go_enter Tryd.func17, Tryd.ntmps17
  go_wp2
  go_quiet (fail)
  have HB : Below w.heap.size w (w.drewN nq) := below_drewN w nq
  have p0' := (HP.below HB).c0
  have p4' := (HP.below HB).c4
  have p5' := (HP.below HB).c5
  have q4' := (HQ.below HB).c4
  have q5' := (HQ.below HB).c5
  generalize w.drewN nq = wq at HB p0' p4' p5' q4' q5' ⊢
  clear p0 p4 p5 q0 q4 q5
  go_wp2
  go_quiet (fail)
  have HB2 : Below w.heap.size w (wq.drewN nq) := HB.trans ((below_drewN wq nq).mono HB.size)
  have p5'' := (HP.below HB2).c5
  have q5'' := (HQ.below HB2).c5
  generalize wq.drewN nq = wz at HB2 p5'' q5'' ⊢
  clear p0' p4' p5' q4' q5'
  have HBZ : Hid (Below w.heap.size w wz) := HB2
  clear HB HB2
  go_wp2
  go_region_held3 (fun u => u.cell? ⟨p, 5, none⟩ = some (.slice xa xl xc) ∧ u.cell? ⟨q, 5, none⟩ = some (.slice ya yl yc)) (go_keep)
    ((go_at_call 9; refine (HI.out _ (by repeat (first | exact HBZ.out | refine Below.drew ?_))).mono ?_; rintro e w2 ⟨rfl, hb2⟩; have z1 := cell_below hb2 (by simpa using p5''); have z2 := cell_below hb2 (by simpa using q5'')))
  have HF : Below w.heap.size w w2 := HBZ.out.drew.trans (hb2.mono HBZ.out.size)
  go_wp2
  go_ret
  exact ⟨rfl, HF⟩
end Go.Proofs.Qxb6604659aDoor
