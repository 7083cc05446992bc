/-
  SEAT b6604659aD: lsize: it reads; a result of at most 2^20 tells that every length and text is at most that.
-/
import Derived.Test.Qxb6604659aDoorForest
import Derived.Deep.QuietTactic
import Derived.BigQuiet
namespace Go.Proofs.Qxb6604659aDoor
open Go Go.RowKit
set_option linter.unusedVariables false
set_option linter.unusedSimpArgs false

def SizeSays (n : Nat) (w : World) (v : Value) (acc : Int) (e : Ending) (w' : World) : Prop :=
  ∃ r : Int, e = .returned (.int .i64 r) ∧ 0 ≤ r ∧ r ≤ 8388608 ∧ (r ≤ 1048576 → acc ≤ r ∧ LF 1048576 w n v) ∧ ∃ q, w' = w.drewN q

set_option maxRecDepth 100000 in
set_option maxHeartbeats 1000000 in
theorem lsize_empty (n : Nat) (a : Option Addr) (c : Nat) (hc : a = none → c = 0) (acc : Int) (h0 : 0 ≤ acc) (h1 : acc ≤ 8388608) (w : World) :
    Calls Tryd.prog 6 #[.slice a 0 c, .int .i64 acc] w fun e w' => SizeSays n w (.slice a 0 c) acc e w' := by
  have HE : Hid (LF 1048576 w n (.slice a 0 c)) := by
    cases n with
    | zero => exact ⟨a, c, rfl, hc⟩
    | succ n => exact .inl ⟨a, c, rfl, hc⟩
  clear hc
  go_enter Tryd.func6, Tryd.ntmps6
  go_wp2
  go_loop [1, 5] (fun z i => z = .int .i64 acc ∧ i = .int .i64 0) (fun _ _ => 0)
  case atStart => exact ⟨rfl, rfl⟩
  case round =>
    obtain ⟨rfl, rfl⟩ := hrel
    go_wp2
    go_ret
    exact ⟨acc, rfl, h0, h1, fun _ => ⟨Int.le_refl _, HE.out⟩, 0, rfl⟩

set_option maxRecDepth 100000 in
set_option maxHeartbeats 4000000 in
theorem lsize_step (n : Nat) (IH : ∀ (v : Value) (acc : Int) (w : World), LF maxLen w n v → 0 ≤ acc → acc ≤ 8388608 → Calls Tryd.prog 6 #[v, .int .i64 acc] w fun e w' => SizeSays n w v acc e w')
    (b off len cap : Nat) (acc : Int) (w : World) (hl : len ≤ maxLen)
    (he : ∀ i, i < len → ∃ kd fl ln cl tx ag, LAt w b (off + i * 6) kd fl ln cl tx ag ∧ fl.size ≤ maxLen ∧ tx.size ≤ maxLen ∧ LF maxLen w n ag) (h0 : 0 ≤ acc) (h1 : acc ≤ 8388608) :
    Calls Tryd.prog 6 #[.slice (some ⟨b, off, none⟩) len cap, .int .i64 acc] w fun e w' => SizeSays (n + 1) w (.slice (some ⟨b, off, none⟩) len cap) acc e w' := by
  have HI : Hid (∀ (v : Value) (acc : Int) (w : World), LF maxLen w n v → 0 ≤ acc → acc ≤ 8388608 → Calls Tryd.prog 6 #[v, .int .i64 acc] w fun e w' => SizeSays n w v acc e w') := IH
  have HE : Hid (∀ i, i < len → ∃ kd fl ln cl tx ag, LAt w b (off + i * 6) kd fl ln cl tx ag ∧ fl.size ≤ maxLen ∧ tx.size ≤ maxLen ∧ LF maxLen w n ag) := he
  clear IH he
  unfold maxLen at hl
  go_enter Tryd.func6, Tryd.ntmps6
  go_wp2
  go_loopw [1, 5] (fun z i wx => ∃ (k : Nat) (t : Int), k ≤ len ∧ 0 ≤ t ∧ t ≤ 8388608 ∧ z = .int .i64 t ∧ i = .int .i64 k ∧ Hid (∃ q, wx = w.drewN q) ∧
      Hid (t ≤ 1048576 → acc + 64 * k ≤ t ∧ ∀ i, i < k → ∃ kd fl ln cl tx ag, LAt w b (off + i * 6) kd fl ln cl tx ag ∧ fl.size ≤ 1048576 ∧ tx.size ≤ 1048576 ∧ LF 1048576 w n ag)) (fun _ i _ => len - (intOf i).toNat)
  case atStart => exact ⟨0, acc, Nat.zero_le _, h0, h1, rfl, rfl, ⟨0, rfl⟩, fun _ => ⟨by omega, fun i hi => by omega⟩⟩
  case round =>
    obtain ⟨k, t, hk, ht0, ht1, rfl, rfl, HW, HS⟩ := hrel
    by_cases hlt : k < len
    · obtain ⟨kd, fl, ln, cl, tx, ag, hA, hfl, htx, hag⟩ := HE.out k hlt
      have hb : LAt wr b (off + k * 6) kd fl ln cl tx ag := by
        obtain ⟨q, hq⟩ := HW.out
        rw [hq]; exact hA.below (below_drewN w q)
      obtain ⟨c0, c1, c2, c3, c4, c5⟩ := hb
      unfold maxLen at hfl htx
      by_cases hbig : 1048576 < t
      · go_wp2_with fail
        go_ret
        exact ⟨t, rfl, ht0, ht1, fun h => by omega, HW.out⟩
      · by_cases hf : 1048576 < fl.size
        · go_wp2_with fail
          go_ret
          exact ⟨1048577, rfl, by omega, by omega, fun h => by omega, HW.out⟩
        · by_cases hx : 1048576 < tx.size
          · go_wp2_with fail
            go_ret
            exact ⟨1048577, rfl, by omega, by omega, fun h => by omega, HW.out⟩
          · go_wp2_with fail
            have i1 : (k : Int) < (len : Int) := by omega
            go_quiet (fail)
            have HW2 : Hid (∃ q, wr.drewN nq = w.drewN q) := drewN_more HW.out nq
            have c5' : (wr.drewN nq).cell? ⟨b, off + k * 6 + 5, none⟩ = some ag := c5
            generalize wr.drewN nq = wq at HW2 c5' ⊢
            clear c0 c1 c2 c3 c4 c5
            have hagq : LF maxLen wq n ag := by
              obtain ⟨q, hq⟩ := HW2.out
              rw [hq]; exact LF.below (below_drewN w q) hag
            have HCall := HI.out ag (t + (64 + fl.size + tx.size)) wq hagq (by omega) (by omega)
            have HCh : Hid (Calls Tryd.prog 6 #[ag, .int .i64 (t + (64 + fl.size + tx.size))] wq fun e w' => SizeSays n wq ag (t + (64 + fl.size + tx.size)) e w') := HCall
            clear HCall hagq
            go_wp2_with fail
            refine HCh.out.mono ?_
            rintro e w3 ⟨r, rfl, hr0, hr1, hr2, hq3⟩
            have HW3 : Hid (∃ q, w3 = w.drewN q) := by
              obtain ⟨q3, rfl⟩ := hq3
              exact drewN_more HW2.out q3
            have HS2 : Hid (r ≤ 1048576 → acc + 64 * ((k + 1 : Nat) : Int) ≤ r ∧ ∀ i, i < k + 1 → ∃ kd fl ln cl tx ag, LAt w b (off + i * 6) kd fl ln cl tx ag ∧ fl.size ≤ 1048576 ∧ tx.size ≤ 1048576 ∧ LF 1048576 w n ag) := by
              intro h
              obtain ⟨h1, h2⟩ := hr2 h
              obtain ⟨h3, h4⟩ := HS.out (by omega)
              refine ⟨by omega, fun i hi => ?_⟩
              by_cases e : i = k
              · subst e
                refine ⟨kd, fl, ln, cl, tx, ag, hA, by omega, by omega, ?_⟩
                obtain ⟨q, hq⟩ := HW2.out
                rw [hq] at h2
                exact LF.undrew h2
              · exact h4 i (by omega)
            clear hq3 hr2 HS
            go_wp2_with fail
            go_roundw
            case rel => exact ⟨k + 1, r, by omega, hr0, hr1, rfl, by go_num, HW3, HS2⟩
            case measure => simp [intOf]; omega
    · obtain rfl : k = len := by omega
      go_wp2_with fail
      go_ret
      refine ⟨t, rfl, ht0, ht1, fun h => ?_, HW.out⟩
      obtain ⟨h3, h4⟩ := HS.out h
      exact ⟨by omega, .inr ⟨b, off, k, cap, rfl, by omega, h4⟩⟩

theorem lsize_any : ∀ (n : Nat) (v : Value) (acc : Int) (w : World), LF maxLen w n v → 0 ≤ acc → acc ≤ 8388608 → Calls Tryd.prog 6 #[v, .int .i64 acc] w fun e w' => SizeSays n w v acc e w'
  | 0, v, acc, w, h, h0, h1 => by
    obtain ⟨a, c, rfl, hc⟩ := h
    exact lsize_empty 0 a c hc acc h0 h1 w
  | n + 1, v, acc, w, h, h0, h1 => by
    rcases h with ⟨a, c, rfl, hc⟩ | ⟨b, off, len, cap, rfl, hl, he⟩
    · exact lsize_empty (n + 1) a c hc acc h0 h1 w
    · exact lsize_step n (fun v acc w => lsize_any n v acc w) b off len cap acc w hl he h0 h1
end Go.Proofs.Qxb6604659aDoor
