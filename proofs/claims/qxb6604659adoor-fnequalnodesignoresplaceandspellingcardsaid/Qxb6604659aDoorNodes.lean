/-
  SEAT b6604659aD: EqualNodes: two forests that are alike but for place and spelling are found equal; two of unlike length are not.
-/
import Derived.Test.Qxb6604659aDoorEqualA
import Derived.Test.Qxb6604659aDoorEqualB
namespace Go.Proofs.Qxb6604659aDoor
open Go Go.RowKit
set_option linter.unusedVariables false
set_option linter.unusedSimpArgs false

set_option maxRecDepth 100000 in
set_option maxHeartbeats 1000000 in
theorem nodes_unlike (a a' : Option Addr) (l l' c c' : Nat) (w : World) (hne : l ≠ l') :
    Calls Tryd.prog 9 #[.slice a l c, .slice a' l' c'] w fun e w' => e = .returned (.bool false) ∧ Below w.heap.size w w' := by
  have h1 : ((l : Int) != (l' : Int)) = true := bne_iff_ne.2 (by omega)
  have h2 : ¬ ((l : Int) = (l' : Int)) := by omega
  go_enter Tryd.func9, Tryd.ntmps9
  go_wp2
  go_ret
  exact ⟨rfl, Below.refl _ _⟩

set_option maxRecDepth 100000 in
set_option maxHeartbeats 1000000 in
theorem nodes_empty (a a' : Option Addr) (c c' : Nat) (w : World) :
    Calls Tryd.prog 9 #[.slice a 0 c, .slice a' 0 c'] w fun e w' => e = .returned (.bool true) ∧ Below w.heap.size w w' := by
  go_enter Tryd.func9, Tryd.ntmps9
  go_wp2
  go_loopw [13] (fun i wx => i = .int .i64 0 ∧ wx = w) (fun i _ => 0)
  case atStart => exact ⟨rfl, rfl⟩
  case round =>
    obtain ⟨rfl, rfl⟩ := hrel
    go_wp2
    go_ret
    exact ⟨rfl, Below.refl _ _⟩

set_option maxRecDepth 100000 in
set_option maxHeartbeats 4000000 in
theorem nodes_step (F G len : Nat) (hl : len ≤ 1048576) (w : World)
    (he : ∀ i, i < len → ∃ p q, w.cell? ⟨F, i, none⟩ = some (.pointer (some ⟨p, 0, none⟩)) ∧ w.cell? ⟨G, i, none⟩ = some (.pointer (some ⟨q, 0, none⟩)) ∧
      ∀ u, Below w.heap.size w u → Calls Tryd.prog 17 #[.pointer (some ⟨p, 0, none⟩), .pointer (some ⟨q, 0, none⟩)] u fun e w' => e = .returned (.bool true) ∧ Below u.heap.size u w') :
    Calls Tryd.prog 9 #[.slice (some ⟨F, 0, none⟩) len len, .slice (some ⟨G, 0, none⟩) len len] w fun e w' => e = .returned (.bool true) ∧ Below w.heap.size w w' := by
  have HE : Hid (∀ i, i < len → ∃ p q, w.cell? ⟨F, i, none⟩ = some (.pointer (some ⟨p, 0, none⟩)) ∧ w.cell? ⟨G, i, none⟩ = some (.pointer (some ⟨q, 0, none⟩)) ∧
      ∀ u, Below w.heap.size w u → Calls Tryd.prog 17 #[.pointer (some ⟨p, 0, none⟩), .pointer (some ⟨q, 0, none⟩)] u fun e w' => e = .returned (.bool true) ∧ Below u.heap.size u w') := he
  clear he
  go_enter Tryd.func9, Tryd.ntmps9
  go_wp2
  go_loopw [13] (fun i wx => ∃ k : Nat, k ≤ len ∧ i = .int .i64 k ∧ Hid (Below w.heap.size w wx)) (fun i _ => len - (intOf i).toNat)
  case atStart => exact ⟨0, Nat.zero_le _, rfl, Below.refl _ _⟩
  case round =>
    obtain ⟨k, hk, rfl, HB⟩ := hrel
    by_cases hlt : k < len
    · obtain ⟨p, q, hp, hq, hc⟩ := HE.out k hlt
      have HC : Hid (∀ u, Below w.heap.size w u → Calls Tryd.prog 17 #[.pointer (some ⟨p, 0, none⟩), .pointer (some ⟨q, 0, none⟩)] u fun e w' => e = .returned (.bool true) ∧ Below u.heap.size u w') := hc
      clear hc
      have p1 := cell_below HB.out hp
      have q1 := cell_below HB.out hq
      clear hp hq
      have i1 : (k : Int) < (len : Int) := by omega
      go_wp2_with fail
      go_region_held3 (fun u => u.cell? ⟨F, k, none⟩ = some (.pointer (some ⟨p, 0, none⟩)) ∧ u.cell? ⟨G, k, none⟩ = some (.pointer (some ⟨q, 0, none⟩))) (go_keep)
        ((go_at_call 17; refine (HC.out _ (by repeat (first | exact HB.out | refine Below.drew ?_))).mono ?_; rintro e w2 ⟨rfl, hb2⟩; have z1 := cell_below hb2 (by simpa using p1); have z2 := cell_below hb2 (by simpa using q1)))
      have HF : Hid (Below w.heap.size w w2) := HB.out.drew.trans (hb2.mono HB.out.size)
      go_wp2_with fail
      go_roundw
      case rel => exact ⟨k + 1, by omega, by go_num, HF⟩
      case measure => simp [intOf]; omega
    · obtain rfl : k = len := by omega
      go_wp2_with fail
      go_ret
      exact ⟨rfl, HB.out⟩

theorem nodes_any : ∀ (n : Nat) (x y : Value) (w : World), w.ShapedOpen Tryd.prog → Sim w n x y → Calls Tryd.prog 9 #[x, y] w fun e w' => e = .returned (.bool true) ∧ Below w.heap.size w w'
  | 0, x, y, w, hsh, ⟨⟨a, c, hx, _⟩, ⟨a', c', hy, _⟩⟩ => by subst hx; subst hy; exact nodes_empty a a' c c' w
  | n + 1, x, y, w, hsh, h => by
    rcases h with ⟨⟨a, c, rfl, _⟩, ⟨a', c', rfl, _⟩⟩ | ⟨F, G, len, rfl, rfl, hl, he⟩
    · exact nodes_empty a a' c c' w
    · refine nodes_step F G len hl w fun i hi => ?_
      obtain ⟨p, q, kd, tx, ty, ax, ay, h1, h2, h3, h4, h5, h6, h7, h8, h9⟩ := he i hi
      refine ⟨p, q, h1, h2, fun u hu => ?_⟩
      by_cases hkd : kd = 1
      · exact equal_words n (fun x y w => nodes_any n x y w) p q kd tx ty ax ay u (shaped_below hsh hu) (h3.below hu) (h4.below hu) h5 h6 hkd (h7 hkd) (h9.below hu)
      · exact equal_rest n (fun x y w => nodes_any n x y w) p q kd tx ty ax ay u (shaped_below hsh hu) (h3.below hu) (h4.below hu) h5 h6 hkd (h8 hkd) (h9.below hu)
end Go.Proofs.Qxb6604659aDoor
