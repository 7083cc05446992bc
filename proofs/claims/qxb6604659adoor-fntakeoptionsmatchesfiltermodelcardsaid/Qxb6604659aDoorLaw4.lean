/-
  SEAT b6604659aD: the law FnTakeOptionsMatchesFilterModel walked.
-/
import Derived.Test.Qxb6604659aDoorRest
import Derived.Lib.Builder
namespace Go.Proofs.Qxb6604659aDoor
open Go Go.RowKit Go.Maps
set_option linter.unusedVariables false
set_option linter.unusedSimpArgs false

set_option maxRecDepth 100000 in
set_option maxHeartbeats 4000000 in
theorem law4_any (n : Nat) (v kv : Value) (N : Nat → ByteArray) (nk : Nat) (fk : ByteArray) (fail : Bool) (w : World) (hsh : w.ShapedOpen Tryd.prog) (hv : LF maxLen w n v) (hkv : SAt w kv N nk) (hnk : nk ≤ maxLen)
    (hN : ∀ i, i < nk → (N i).size ≤ maxLen) (hfk : fk.size ≤ maxLen) :
    Calls Tryd.prog 4 #[v, kv, .string fk, .bool fail] w fun e w' => e = .returned (.bool true) ∧ Below w.heap.size w w' := by
  have HF : Hid (Calls Tryd.prog 10 #[v, kv, .string fk] w fun e w' => FitsSays n w v N nk fk e w') := fits_any n v N nk kv fk w hv hnk hfk hN hkv
  obtain ⟨va, vl, vc, rfl⟩ := hv.slice
  have HKV : Hid (SAt w kv N nk) := hkv
  obtain ⟨ka, kc, rfl, _, _⟩ := hkv
  have HSH : Hid (w.ShapedOpen Tryd.prog) := hsh
  clear hsh hv hN hnk
  go_enter Tryd.func4, Tryd.ntmps4
  go_wp2_with fail
  refine HF.out.mono ?_
  rintro e wA ⟨B, rfl, hB, hq⟩
  have HBA : Hid (Below w.heap.size w wA) := by obtain ⟨q, rfl⟩ := hq; exact below_drewN w q
  cases B with
  | false =>
    go_wp2_with fail
    go_ret
    exact ⟨rfl, HBA.out⟩
  | true =>
    obtain ⟨hlf, hk4, hf1, hN1⟩ := hB rfl
    have HLF : Hid (LF 1048576 wA n (.slice va vl vc)) := hlf.below HBA.out
    have HN1 : Hid (∀ i, i < nk → (N i).size ≤ 1048576) := hN1
    have HCL : Hid (Calls Tryd.prog 11 #[.slice ka nk kc] wA fun e w' => ∃ a c, e = .returned (.slice a nk c) ∧ Hid (SAt w' (.slice a nk c) N nk ∧ Below wA.heap.size wA w')) := clone_any _ nk N wA (by omega) (HKV.out.below HBA.out)
    clear hB hq hlf hN1 HF
    go_wp2_with fail
    refine HCL.out.mono ?_
    rintro e w1 ⟨ka1, kc1, rfl, hK1⟩
    have HB1 : Hid (Below wA.heap.size wA w1) := hK1.out.2
    have HP : Hid (Calls Tryd.prog 8 #[.slice va vl vc] w1 fun e w' => ∃ a l c, e = .returned (.slice a l c) ∧ Hid (PConv 1048576 w1.heap.size wA w' n (.slice va vl vc) (.slice a l c) ∧ Below w1.heap.size w1 w')) :=
      (pNodes_any 1048576 (by omega) wA n _ w1 HLF.out HB1.out).mono fun e w' ⟨nv, he, h1, h2⟩ => by
        obtain ⟨ra, rl, rc, rfl⟩ := h1.slice
        exact ⟨ra, rl, rc, he, h1, h2⟩
    clear HCL
    go_wp2_with fail
    refine HP.out.mono ?_
    rintro e w2 ⟨na, nl, nc, rfl, hP⟩
    have HB2 : Hid (Below wA.heap.size wA w2) := HB1.out.trans (hP.out.2.mono HB1.out.size)
    have HK2 : Hid (SAt w2 (.slice ka1 nk kc1) N nk) := hK1.out.1.below hP.out.2
    have hrows := rows_of hP.out.1
    have HROWS : Hid (∃ ns : List Nd, ns.length ≤ 1048576 ∧ ARow wA (.slice va vl vc) ns ∧ NRow w2 (.slice na nl nc) ns) := hrows
    have HS : Hid (Calls Tryd.prog 13 #[.slice ka1 nk kc1, .string fk, .bool fail] w2 fun e w' => e = .returned (.map (some w2.heap.size)) ∧ (∃ cnt, w'.ownsMap Tryd.prog 9 fnElem w2.heap.size cnt (setAll N nk fk fail)) ∧ Below w2.heap.size w2 w') := set_any _ nk N fk fail w2 hk4 HN1.out hf1 HK2.out
    clear HP hrows
    go_wp2_with fail
    refine HS.out.mono ?_
    rintro e w3 ⟨rfl, ⟨cnt, hmap⟩, hb3⟩
    have HB3 : Hid (Below wA.heap.size wA w3) := HB2.out.trans (hb3.mono HB2.out.size)
    obtain ⟨ns, hnl, hA, hR⟩ := HROWS.out
    have HT : Hid (Calls Tryd.prog 12 #[.slice na nl nc, .map (some w2.heap.size)] w3 fun e w' => TakeSays N nk fk fail ns w3 e w') := take_any N nk fk fail ns _ _ cnt w3 (shaped_below (shaped_below HSH.out HBA.out) HB3.out) hnl (hR.below hb3) hmap
    have HK3 : Hid (SAt w3 (.slice ka1 nk kc1) N nk) := HK2.out.below hb3
    have HA3 : Hid (ARow w3 (.slice va vl vc) ns) := hA.below HB3.out
    have HR3 : Hid (NRow w3 (.slice na nl nc) ns) := hR.below hb3
    clear HS hmap hb3 hA hR HROWS
    generalize w2.heap.size = m at HT ⊢
    go_wp2_with fail
    refine HT.out.mono ?_
    rintro e w4 ⟨hb4, hsays⟩
    have HB4 : Hid (Below wA.heap.size wA w4) := HB3.out.trans (hb4.mono HB3.out.size)
    have HK4 : Hid (SAt w4 (.slice ka1 nk kc1) N nk) := HK3.out.below hb4
    have HA4 : Hid (ARow w4 (.slice va vl vc) ns) := HA3.out.below hb4
    have HR4 : Hid (NRow w4 (.slice na nl nc) ns) := HR3.out.below hb4
    have HE : Hid (Below w.heap.size w w4) := HBA.out.trans (HB4.out.mono HBA.out.size)
    clear hb4 HT HA3 HR3 HK3
    obtain ⟨_, _, hva, hacell⟩ := HA4.out
    injection hva with ea el ec
    subst ea; subst ec
    have HV : Hid (vl = ns.length) := el
    have HAC : Hid (∀ k x, ns[k]? = some x → ∃ b off, va = some ⟨b, off, none⟩ ∧ w4.cell? ⟨b, off + k * 6, none⟩ = some (.int .i64 x.kd) ∧ w4.cell? ⟨b, off + k * 6 + 4, none⟩ = some (.string x.tx)) := fun k x hx => by
      obtain ⟨b, off, h1, h2⟩ := hacell (by rcases Nat.lt_or_ge k ns.length with h | h; · omega
                                            · rw [List.getElem?_eq_none h] at hx; cases hx)
      exact ⟨b, off, h1, h2 k x hx⟩
    have HND : Hid (∀ x ∈ ns, NdAt w4 x) := by obtain ⟨_, _, _, _, _, h⟩ := HR4.out; exact h
    have hvl : vl ≤ 1048576 := by omega
    clear hacell el
    obtain ⟨_, _, hna, _, hncell, _⟩ := HR4.out
    injection hna with ea2 el2 ec2
    subst ea2; subst ec2
    have HNL : Hid (nl = ns.length) := el2
    have HNC : Hid (∀ k x, ns[k]? = some x → ∃ F, na = some ⟨F, 0, none⟩ ∧ w4.cell? ⟨F, k, none⟩ = some (ptr x)) := fun k x hx => by
      obtain ⟨F, h1, h2⟩ := hncell (by rcases Nat.lt_or_ge k ns.length with h | h; · omega
                                       · rw [List.getElem?_eq_none h] at hx; cases hx)
      exact ⟨F, h1, h2 k x hx⟩
    clear hncell el2
    have HKN : Hid (∀ x ∈ ns, ∀ u, (∃ q, u = w4.drewN q) → Calls Tryd.prog 15 #[.string x.tx, .slice ka1 nk kc1, .string fk, .bool fail] u fun e w' => e = .returned (.bool (knownK x.tx N nk fk fail)) ∧ w' = u) := fun x hx u hu => by
      obtain ⟨q, rfl⟩ := hu
      exact known_any x.tx fk fail N nk _ _ (by have := (HND.out x hx).2; unfold maxLen; omega) hfk (by omega) (fun i hi => by have := HN1.out i hi; unfold maxLen; omega) (HK4.out.below (below_drewN w4 q))
    have HCE : Hid (∀ x ∈ ns, ∀ u, Calls Tryd.prog 14 #[.string x.tx, .string fk] u fun e w' => e = .returned (.bool (isKey x.tx fk)) ∧ w' = u) := fun x hx u => canonEq_any x.tx fk u (by have := (HND.out x hx).2; unfold maxLen; omega) hfk
    rcases hsays with ⟨hany, xe, rfl⟩ | ⟨hany, rv, rn, rfl, hown⟩
    · have HANY : Hid (ns.any (isRefused fk fail) = true) := hany
      clear hany
      go_wp2_with fail
      go_loopw [12, 13] (fun z i wx => ∃ k : Nat, k ≤ vl ∧ z = .bool false ∧ i = .int .i64 k ∧ wx = w4 ∧ Hid ((ns.take k).any (isRefused fk fail) = false)) (fun _ i _ => vl - (intOf i).toNat)
      case atStart => exact ⟨0, Nat.zero_le _, rfl, rfl, rfl, rfl⟩
      case round =>
        obtain ⟨k, hk, rfl, rfl, hw4, HRk⟩ := hrel
        replace hw4 := hw4.symm
        subst hw4
        by_cases hlt : k < vl
        · obtain ⟨x, hx⟩ : ∃ x, ns[k]? = some x := ⟨_, List.getElem?_eq_getElem (by rw [← HV.out]; exact hlt)⟩
          have HX : Hid (ns[k]? = some x) := hx
          obtain ⟨b, off, rfl, c0, c4⟩ := HAC.out k x hx
          have HCx : Hid (∀ u, Calls Tryd.prog 14 #[.string x.tx, .string fk] u fun e w' => e = .returned (.bool (isKey x.tx fk)) ∧ w' = u) := HCE.out x (List.mem_of_getElem? hx)
          have HNX : isRefused fk fail x = false → Hid ((ns.take (k + 1)).any (isRefused fk fail) = false) := fun h => by
            show (ns.take (k + 1)).any (isRefused fk fail) = false
            rw [any_next _ hx, HRk.out, h]; rfl
          clear hx
          have i1 : (k : Int) < (vl : Int) := by omega
          cases hv : x.kd == 2 with
          | false =>
            have HN2 := HNX (by unfold isRefused; rw [hv]; rfl)
            clear HNX
            go_wp2_with fail
            go_roundw
            case rel => exact ⟨k + 1, by omega, rfl, by go_num, trivial, HN2⟩
            case measure => simp [intOf]; omega
          | true =>
            cases fail with
            | false =>
              have HN2 := HNX (by unfold isRefused; rw [Bool.false_and, Bool.and_false])
              clear HNX
              go_wp2_with fail
              go_roundw
              case rel => exact ⟨k + 1, by omega, rfl, by go_num, trivial, HN2⟩
              case measure => simp [intOf]; omega
            | true =>
              cases hkey : isKey x.tx fk with
              | false =>
                have HN2 := HNX (by unfold isRefused; rw [hkey, Bool.true_and, Bool.and_false])
                rw [hkey] at HCx
                clear HNX
                go_wp2_with fail
                refine (HCx.out _).mono ?_
                rintro e w5 ⟨rfl, rfl⟩
                go_wp2_with fail
                go_roundw
                case rel => exact ⟨k + 1, by omega, rfl, by go_num, trivial, HN2⟩
                case measure => simp [intOf]; omega
              | true =>
                rw [hkey] at HCx
                have heq := fun u => Lib.run_eql_slice_nil (P := Tryd.prog) u 25 27 none 0 0 0 0 Tryd.underlying25
                clear HNX
                go_wp2_with fail
                refine (HCx.out _).mono ?_
                rintro e w5 ⟨rfl, rfl⟩
                go_wp2_with fail
                go_ret
                exact ⟨rfl, HE.out⟩
        · obtain rfl : k = vl := by omega
          exfalso
          have h1 := HRk.out
          have h2 := HANY.out
          rw [HV.out, List.take_length, h2] at h1
          cases h1
    · have HANY : Hid (ns.any (isRefused fk fail) = false) := hany
      have hnrow := owns_nrow hown (fun x hx => HND.out x (List.mem_filter.1 hx).1)
      have HNR : Hid (NRow w4 rv (ns.filter fun x => !isTaken N nk fk fail x)) := hnrow
      obtain ⟨ra, rc, rfl, hra0, hra, _⟩ := hnrow
      clear hany hown
      have HRC : Hid (0 < (ns.filter fun x => !isTaken N nk fk fail x).length → ∃ F, ra = some ⟨F, 0, none⟩ ∧ ∀ i x, (ns.filter fun x => !isTaken N nk fk fail x)[i]? = some x → w4.cell? ⟨F, i, none⟩ = some (ptr x)) := hra
      clear hra hra0
      generalize hrl : (ns.filter fun x => !isTaken N nk fk fail x).length = rl at HRC ⊢
      have HRL : Hid ((ns.filter fun x => !isTaken N nk fk fail x).length = rl) := hrl
      clear hrl
      go_wp2_with fail
      go_loopw [12, 13] (fun z i wx => ∃ k : Nat, k ≤ vl ∧ z = .bool false ∧ i = .int .i64 k ∧ wx = w4 ∧ Hid ((ns.take k).any (isRefused fk fail) = false)) (fun _ i _ => vl - (intOf i).toNat)
      case atStart => exact ⟨0, Nat.zero_le _, rfl, rfl, rfl, rfl⟩
      case round =>
        obtain ⟨k, hk, rfl, rfl, hw4, HRk⟩ := hrel
        replace hw4 := hw4.symm
        subst hw4
        by_cases hlt : k < vl
        · obtain ⟨x, hx⟩ : ∃ x, ns[k]? = some x := ⟨_, List.getElem?_eq_getElem (by rw [← HV.out]; exact hlt)⟩
          have HX : Hid (ns[k]? = some x) := hx
          obtain ⟨b, off, rfl, c0, c4⟩ := HAC.out k x hx
          have HCx : Hid (∀ u, Calls Tryd.prog 14 #[.string x.tx, .string fk] u fun e w' => e = .returned (.bool (isKey x.tx fk)) ∧ w' = u) := HCE.out x (List.mem_of_getElem? hx)
          have HNX : isRefused fk fail x = false → Hid ((ns.take (k + 1)).any (isRefused fk fail) = false) := fun h => by
            show (ns.take (k + 1)).any (isRefused fk fail) = false
            rw [any_next _ hx, HRk.out, h]; rfl
          clear hx
          have i1 : (k : Int) < (vl : Int) := by omega
          cases hv : x.kd == 2 with
          | false =>
            have HN2 := HNX (by unfold isRefused; rw [hv]; rfl)
            clear HNX
            go_wp2_with fail
            go_roundw
            case rel => exact ⟨k + 1, by omega, rfl, by go_num, trivial, HN2⟩
            case measure => simp [intOf]; omega
          | true =>
            cases fail with
            | false =>
              have HN2 := HNX (by unfold isRefused; rw [Bool.false_and, Bool.and_false])
              clear HNX
              go_wp2_with fail
              go_roundw
              case rel => exact ⟨k + 1, by omega, rfl, by go_num, trivial, HN2⟩
              case measure => simp [intOf]; omega
            | true =>
              cases hkey : isKey x.tx fk with
              | false =>
                have HN2 := HNX (by unfold isRefused; rw [hkey, Bool.true_and, Bool.and_false])
                rw [hkey] at HCx
                clear HNX
                go_wp2_with fail
                refine (HCx.out _).mono ?_
                rintro e w5 ⟨rfl, rfl⟩
                go_wp2_with fail
                go_roundw
                case rel => exact ⟨k + 1, by omega, rfl, by go_num, trivial, HN2⟩
                case measure => simp [intOf]; omega
              | true =>
                exfalso
                have h2 := any_of_take (isRefused fk true) HX.out (by unfold isRefused; rw [hv, hkey]; rfl)
                rw [HANY.out] at h2
                cases h2
        · obtain rfl : k = vl := by omega
          clear HCE
          obtain ⟨i32, hi32⟩ := Option.isSome_iff_exists.1 (show (Tryd.prog.info? 32).isSome = true by kernel_rfl)
          go_wp2_with fail
          go_loopw [14, 15] (fun z i wx => ∃ k2 j : Nat, k2 ≤ k ∧ j ≤ k2 ∧ z = .int .i64 j ∧ i = .int .i64 k2 ∧ Hid (j = ((ns.take k2).filter fun x => !isTaken N nk fk fail x).length) ∧ Hid (∃ q, wx = w4.drewN q)) (fun _ i _ => k - (intOf i).toNat)
          case atStart => exact ⟨0, 0, Nat.zero_le _, Nat.le_refl _, rfl, rfl, rfl, 0, rfl⟩
          case round =>
            obtain ⟨k2, j, hk2, hj2, rfl, rfl, HJ, HW⟩ := hrel
            by_cases hlt2 : k2 < k
            · obtain ⟨x, hx⟩ : ∃ x, ns[k2]? = some x := ⟨_, List.getElem?_eq_getElem (by rw [← HV.out]; exact hlt2)⟩
              have HX : Hid (ns[k2]? = some x) := hx
              obtain ⟨b, off, rfl, c0', c4'⟩ := HAC.out k2 x hx
              have c0 : wr.cell? ⟨b, off + k2 * 6, none⟩ = some (.int .i64 x.kd) := by
                obtain ⟨q, hq⟩ := HW.out
                rw [hq]; exact cell_below (below_drewN w4 q) c0'
              have c4 : wr.cell? ⟨b, off + k2 * 6 + 4, none⟩ = some (.string x.tx) := by
                obtain ⟨q, hq⟩ := HW.out
                rw [hq]; exact cell_below (below_drewN w4 q) c4'
              have HKx : Hid (Calls Tryd.prog 15 #[.string x.tx, .slice ka1 nk kc1, .string fk, .bool fail] wr fun e w' => e = .returned (.bool (knownK x.tx N nk fk fail)) ∧ w' = wr) := HKN.out x (List.mem_of_getElem? hx) wr HW.out
              clear hx c0' c4'
              have i1 : (k2 : Int) < (k : Int) := by omega
              have htk0 := taken_known N nk fk fail x
              cases hv : x.kd == 2 with
              | false =>
                have htk : isTaken N nk fk fail x = false := by rw [htk0, hv]; rfl
                clear htk0
                have HJ2 : Hid (j + 1 = ((ns.take (k2 + 1)).filter fun x => !isTaken N nk fk fail x).length) := by
                  show j + 1 = _
                  rw [keep_next _ HX.out, htk, List.length_append, ← HJ.out]; rfl
                have hplace := at_place (fun x => !isTaken N nk fk fail x) ns k2 x HX.out (by rw [htk]; rfl)
                rw [← HJ.out] at hplace
                have hjr : j < rl := by
                  rw [← HRL.out]
                  rcases Nat.lt_or_ge j (ns.filter fun x => !isTaken N nk fk fail x).length with h | h
                  · exact h
                  · rw [List.getElem?_eq_none h] at hplace; cases hplace
                obtain ⟨G, rfl, hG⟩ := HRC.out (by omega)
                have g0 : wr.cell? ⟨G, j, none⟩ = some (.pointer (some ⟨x.p, 0, none⟩)) := by
                  obtain ⟨q, hq⟩ := HW.out
                  rw [hq]; exact cell_below (below_drewN w4 q) (hG j x hplace)
                obtain ⟨F, rfl, hF⟩ := HNC.out k2 x HX.out
                have f0 : wr.cell? ⟨F, k2, none⟩ = some (.pointer (some ⟨x.p, 0, none⟩)) := by
                  obtain ⟨q, hq⟩ := HW.out
                  rw [hq]; exact cell_below (below_drewN w4 q) hF
                have i2 : (k2 : Int) < (nl : Int) := by have := HNL.out; have := HV.out; omega
                have i3 : (j : Int) < (rl : Int) := by omega
                have hgeq : decide ((rl : Int) ≤ (j : Int)) = false := by rw [decide_eq_false_iff_not]; omega
                have hpne := fun u => Lib.run_neq_ptr_same (P := Tryd.prog) u ⟨x.p, 0, none⟩ Tryd.underlying27 hi32
                clear hplace hG hF htk
                go_wp2_with fail
                go_quiet (fail)
                have HW2 : Hid (∃ q, wr.drewN nq = w4.drewN q) := drewN_more HW.out nq
                generalize wr.drewN nq = wq at HW2 ⊢
                go_wp2_with fail
                go_roundw
                case rel => exact ⟨k2 + 1, j + 1, by omega, by omega, by go_num, by go_num, HJ2, HW2⟩
                case measure => simp [intOf]; omega
              | true =>
                cases hkn : knownK x.tx N nk fk fail with
                | true =>
                  have htk : isTaken N nk fk fail x = true := by rw [htk0, hv, hkn]; rfl
                  rw [hkn] at HKx
                  have HJ2 : Hid (j = ((ns.take (k2 + 1)).filter fun x => !isTaken N nk fk fail x).length) := by
                    show j = _
                    rw [keep_next _ HX.out, htk, List.length_append, ← HJ.out]; rfl
                  clear htk0 htk
                  go_wp2_with fail
                  refine HKx.out.mono ?_
                  rintro e w5 ⟨rfl, rfl⟩
                  go_wp2_with fail
                  go_roundw
                  case rel => exact ⟨k2 + 1, j, by omega, by omega, by go_num, by go_num, HJ2, HW⟩
                  case measure => simp [intOf]; omega
                | false =>
                  have htk : isTaken N nk fk fail x = false := by rw [htk0, hv, hkn]; rfl
                  rw [hkn] at HKx
                  clear htk0
                  have HJ2 : Hid (j + 1 = ((ns.take (k2 + 1)).filter fun x => !isTaken N nk fk fail x).length) := by
                    show j + 1 = _
                    rw [keep_next _ HX.out, htk, List.length_append, ← HJ.out]; rfl
                  have hplace := at_place (fun x => !isTaken N nk fk fail x) ns k2 x HX.out (by rw [htk]; rfl)
                  rw [← HJ.out] at hplace
                  have hjr : j < rl := by
                    rw [← HRL.out]
                    rcases Nat.lt_or_ge j (ns.filter fun x => !isTaken N nk fk fail x).length with h | h
                    · exact h
                    · rw [List.getElem?_eq_none h] at hplace; cases hplace
                  obtain ⟨G, rfl, hG⟩ := HRC.out (by omega)
                  have g0 : wr.cell? ⟨G, j, none⟩ = some (.pointer (some ⟨x.p, 0, none⟩)) := by
                    obtain ⟨q, hq⟩ := HW.out
                    rw [hq]; exact cell_below (below_drewN w4 q) (hG j x hplace)
                  obtain ⟨F, rfl, hF⟩ := HNC.out k2 x HX.out
                  have f0 : wr.cell? ⟨F, k2, none⟩ = some (.pointer (some ⟨x.p, 0, none⟩)) := by
                    obtain ⟨q, hq⟩ := HW.out
                    rw [hq]; exact cell_below (below_drewN w4 q) hF
                  have i2 : (k2 : Int) < (nl : Int) := by have := HNL.out; have := HV.out; omega
                  have i3 : (j : Int) < (rl : Int) := by omega
                  have hgeq : decide ((rl : Int) ≤ (j : Int)) = false := by rw [decide_eq_false_iff_not]; omega
                  have hpne := fun u => Lib.run_neq_ptr_same (P := Tryd.prog) u ⟨x.p, 0, none⟩ Tryd.underlying27 hi32
                  clear hplace hG hF htk
                  go_wp2_with fail
                  refine HKx.out.mono ?_
                  rintro e w5 ⟨rfl, rfl⟩
                  go_wp2_with fail
                  go_quiet (fail)
                  have HW2 : Hid (∃ q, w5.drewN nq = w4.drewN q) := drewN_more HW.out nq
                  generalize w5.drewN nq = wq at HW2 ⊢
                  go_wp2_with fail
                  go_roundw
                  case rel => exact ⟨k2 + 1, j + 1, by omega, by omega, by go_num, by go_num, HJ2, HW2⟩
                  case measure => simp [intOf]; omega
            · obtain rfl : k2 = k := by omega
              have hjl : j = rl := by
                have h1 := HJ.out
                rw [HV.out, List.take_length, HRL.out] at h1
                exact h1
              subst hjl
              have HEQ : Hid (Below w.heap.size w wr) := by
                obtain ⟨q, hq⟩ := HW.out
                rw [hq]; exact HE.out.trans ((below_drewN w4 q).mono HE.out.size)
              go_wp2_with fail
              go_ret
              exact ⟨rfl, HEQ.out⟩
end Go.Proofs.Qxb6604659aDoor
