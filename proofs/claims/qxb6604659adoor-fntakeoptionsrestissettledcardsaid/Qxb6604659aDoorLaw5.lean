/-
  SEAT b6604659aD: the law FnTakeOptionsRestIsSettled walked.
-/
import Derived.Test.Qxb6604659aDoorRest
import Derived.Lib.Builder
namespace Go.Proofs.Qxb6604659aDoor
open Go Go.RowKit Go.Maps
set_option linter.unusedVariables false
set_option linter.unusedSimpArgs false

/-- the rest is settled: what is kept is kept again. -/
theorem keep_keep {α : Type} (f : α → Bool) (l : List α) : (l.filter f).filter f = l.filter f := by
  rw [List.filter_filter]; congr 1; funext x; exact Bool.and_self _
theorem parts_len {α : Type} (f : α → Bool) : ∀ l : List α, (l.filter f).length + (l.filter fun x => !f x).length = l.length
  | [] => rfl
  | a :: l => by
    have ih := parts_len f l
    cases h : f a <;> simp [h] <;> omega
theorem never_refused (fk : ByteArray) (ns : List Nd) : ns.any (isRefused fk false) = false := by
  rw [List.any_eq_false]
  intro x _
  unfold isRefused
  simp

set_option maxRecDepth 100000 in
set_option maxHeartbeats 4000000 in
theorem law5_any (n : Nat) (v kv : Value) (N : Nat → ByteArray) (nk : Nat) (w : World) (hsh : w.ShapedOpen Tryd.prog) (hv : LF maxLen w n v) (hkv : SAt w kv N nk) (hnk : nk ≤ maxLen)
    (hN : ∀ i, i < nk → (N i).size ≤ maxLen) :
    Calls Tryd.prog 5 #[v, kv] w fun e w' => e = .returned (.bool true) ∧ Below w.heap.size w w' := by
  have HF : Hid (Calls Tryd.prog 10 #[v, kv, .string (⟨#[]⟩ : ByteArray)] w fun e w' => FitsSays n w v N nk (⟨#[]⟩ : ByteArray) e w') := fits_any n v N nk kv (⟨#[]⟩ : ByteArray) w hv hnk (Nat.zero_le _) hN hkv
  obtain ⟨va, vl, vc, rfl⟩ := hv.slice
  have HKV : Hid (SAt w kv N nk) := hkv
  obtain ⟨ka, kc, rfl, _, _⟩ := hkv
  have HSH : Hid (w.ShapedOpen Tryd.prog) := hsh
  clear hsh hv hN hnk
  go_enter Tryd.func5, Tryd.ntmps5
  go_wp2_with fail
  refine HF.out.mono ?_
  rintro e wA ⟨B, rfl, hB, hq⟩
  have HBA : Hid (Below w.heap.size w wA) := by obtain ⟨q, rfl⟩ := hq; exact below_drewN w q
  cases B with
  | false =>
    go_wp2_with fail
    go_ret
    exact ⟨rfl, HBA.out⟩
  | true =>
    obtain ⟨hlf, hk4, hf1, hN1⟩ := hB rfl
    have HLF : Hid (LF 1048576 wA n (.slice va vl vc)) := hlf.below HBA.out
    have HN1 : Hid (∀ i, i < nk → (N i).size ≤ 1048576) := hN1
    have HCL : Hid (Calls Tryd.prog 11 #[.slice ka nk kc] wA fun e w' => ∃ a c, e = .returned (.slice a nk c) ∧ Hid (SAt w' (.slice a nk c) N nk ∧ Below wA.heap.size wA w')) := clone_any _ nk N wA (by omega) (HKV.out.below HBA.out)
    clear hB hq hlf hN1 HF
    go_wp2_with fail
    refine HCL.out.mono ?_
    rintro e w1 ⟨ka1, kc1, rfl, hK1⟩
    have HB1 : Hid (Below wA.heap.size wA w1) := hK1.out.2
    have HP : Hid (Calls Tryd.prog 8 #[.slice va vl vc] w1 fun e w' => ∃ a l c, e = .returned (.slice a l c) ∧ Hid (PConv 1048576 w1.heap.size wA w' n (.slice va vl vc) (.slice a l c) ∧ Below w1.heap.size w1 w')) :=
      (pNodes_any 1048576 (by omega) wA n _ w1 HLF.out HB1.out).mono fun e w' ⟨nv, he, h1, h2⟩ => by
        obtain ⟨ra, rl, rc, rfl⟩ := h1.slice
        exact ⟨ra, rl, rc, he, h1, h2⟩
    clear HCL
    go_wp2_with fail
    refine HP.out.mono ?_
    rintro e w2 ⟨na, nl, nc, rfl, hP⟩
    have HB2 : Hid (Below wA.heap.size wA w2) := HB1.out.trans (hP.out.2.mono HB1.out.size)
    have HK2 : Hid (SAt w2 (.slice ka1 nk kc1) N nk) := hK1.out.1.below hP.out.2
    have hrows := rows_of hP.out.1
    have HROWS : Hid (∃ ns : List Nd, ns.length ≤ 1048576 ∧ ARow wA (.slice va vl vc) ns ∧ NRow w2 (.slice na nl nc) ns) := hrows
    have HS : Hid (Calls Tryd.prog 13 #[.slice ka1 nk kc1, .string (⟨#[]⟩ : ByteArray), .bool false] w2 fun e w' => e = .returned (.map (some w2.heap.size)) ∧ (∃ cnt, w'.ownsMap Tryd.prog 9 fnElem w2.heap.size cnt (setAll N nk (⟨#[]⟩ : ByteArray) false)) ∧ Below w2.heap.size w2 w') := set_any _ nk N (⟨#[]⟩ : ByteArray) false w2 hk4 HN1.out hf1 HK2.out
    clear HP hrows
    go_wp2_with fail
    refine HS.out.mono ?_
    rintro e w3 ⟨rfl, ⟨cnt, hmap⟩, hb3⟩
    have HB3 : Hid (Below wA.heap.size wA w3) := HB2.out.trans (hb3.mono HB2.out.size)
    obtain ⟨ns, hnl, hA, hR⟩ := HROWS.out
    have hsh3 := shaped_below (shaped_below HSH.out HBA.out) HB3.out
    have HT : Hid (Calls Tryd.prog 12 #[.slice na nl nc, .map (some w2.heap.size)] w3 fun e w' => TakeSays N nk (⟨#[]⟩ : ByteArray) false ns w3 e w') := take_any N nk (⟨#[]⟩ : ByteArray) false ns _ _ cnt w3 hsh3 hnl (hR.below hb3) hmap
    have HK3 : Hid (SAt w3 (.slice ka1 nk kc1) N nk) := HK2.out.below hb3
    have HA3 : Hid (ARow w3 (.slice va vl vc) ns) := hA.below HB3.out
    have HR3 : Hid (NRow w3 (.slice na nl nc) ns) := hR.below hb3
    have HMP : Hid (w3.ownsMap Tryd.prog 9 fnElem w2.heap.size cnt (setAll N nk (⟨#[]⟩ : ByteArray) false)) := hmap
    have HSH3 : Hid (w3.ShapedOpen Tryd.prog) := hsh3
    clear HS hmap hb3 hA hR HROWS hsh3
    generalize w2.heap.size = m at HT HMP ⊢
    go_wp2_with fail
    refine HT.out.mono ?_
    rintro e w4 ⟨hb4, hsays⟩
    have HND3 : ∀ x ∈ ns, NdAt w3 x := by obtain ⟨_, _, _, _, _, h⟩ := HR3.out; exact h
    rcases hsays with ⟨hany, xe, rfl⟩ | ⟨hany, rv, rn, rfl, hown⟩
    · exfalso
      rw [never_refused] at hany
      cases hany
    have HR4 : Hid (NRow w4 rv (ns.filter fun x => !isTaken N nk (⟨#[]⟩ : ByteArray) false x)) := owns_nrow hown (fun x hx => (HND3 x (List.mem_filter.1 hx).1).below hb4)
    have hr4 := HR4.out
    obtain ⟨ra, rc, rfl, _, _, _⟩ := hr4
    have hlen1 : (ns.filter fun x => !isTaken N nk (⟨#[]⟩ : ByteArray) false x).length ≤ 1048576 := Nat.le_trans (List.length_filter_le _ _) hnl
    have HT2 : Hid (Calls Tryd.prog 12 #[.slice ra (ns.filter fun x => !isTaken N nk (⟨#[]⟩ : ByteArray) false x).length rc, .map (some m)] w4 fun e w' => TakeSays N nk (⟨#[]⟩ : ByteArray) false (ns.filter fun x => !isTaken N nk (⟨#[]⟩ : ByteArray) false x) w4 e w') := take_any N nk (⟨#[]⟩ : ByteArray) false _ _ _ cnt w4 (shaped_below HSH3.out hb4) hlen1 HR4.out (ownsMap_below HMP.out hb4)
    have HB4 : Hid (Below w3.heap.size w3 w4) := hb4
    clear hany hown hb4 HT HND3
    generalize hrl : (ns.filter fun x => !isTaken N nk (⟨#[]⟩ : ByteArray) false x).length = rl at HT2 hlen1 ⊢
    have HRL : Hid ((ns.filter fun x => !isTaken N nk (⟨#[]⟩ : ByteArray) false x).length = rl) := hrl
    clear hrl
    go_wp2_with fail
    refine HT2.out.mono ?_
    rintro e w5 ⟨hb5, hsays⟩
    rcases hsays with ⟨hany, xe, rfl⟩ | ⟨hany, rv2, rn2, rfl, hown⟩
    · exfalso
      rw [never_refused] at hany
      cases hany
    have HB35 : Hid (Below w3.heap.size w3 w5) := HB4.out.trans (hb5.mono HB4.out.size)
    have HR5 : Hid (NRow w5 (.slice ra rl rc) (ns.filter fun x => !isTaken N nk (⟨#[]⟩ : ByteArray) false x)) := by
      have := HR4.out.below hb5
      rw [HRL.out] at this
      exact this
    have HND5 : Hid (∀ x ∈ (ns.filter fun x => !isTaken N nk (⟨#[]⟩ : ByteArray) false x), NdAt w5 x) := by obtain ⟨_, _, _, _, _, h⟩ := HR5.out; exact h
    rw [keep_keep] at hown
    have HS5 : Hid (NRow w5 rv2 (ns.filter fun x => !isTaken N nk (⟨#[]⟩ : ByteArray) false x)) := owns_nrow hown HND5.out
    have hs5 := HS5.out
    obtain ⟨sa, sc, rfl, _, hs5c, _⟩ := hs5
    rw [HRL.out] at hs5c ⊢
    have HSC : Hid (0 < rl → ∃ F, sa = some ⟨F, 0, none⟩ ∧ ∀ i x, (ns.filter fun x => !isTaken N nk (⟨#[]⟩ : ByteArray) false x)[i]? = some x → w5.cell? ⟨F, i, none⟩ = some (ptr x)) := hs5c
    have HRC : Hid (0 < rl → ∃ F, ra = some ⟨F, 0, none⟩ ∧ ∀ i x, (ns.filter fun x => !isTaken N nk (⟨#[]⟩ : ByteArray) false x)[i]? = some x → w5.cell? ⟨F, i, none⟩ = some (ptr x)) := by
      obtain ⟨a, c, h1, _, h2, _⟩ := HR5.out
      injection h1 with h1 h3 h4
      rw [HRL.out] at h2
      rw [h1]
      exact h2
    have HK5 : Hid (SAt w5 (.slice ka1 nk kc1) N nk) := HK3.out.below HB35.out
    have HA5 : Hid (ARow w5 (.slice va vl vc) ns) := HA3.out.below HB35.out
    have HE : Hid (Below w.heap.size w w5) := by
      have h1 := HB3.out.trans (HB35.out.mono HB3.out.size)
      exact HBA.out.trans (h1.mono HBA.out.size)
    clear hany hown hb5 hs5c HT2
    obtain ⟨_, _, hva, hacell⟩ := HA5.out
    injection hva with ea el ec
    subst ea; subst ec
    have HV : Hid (vl = ns.length) := el
    have HAC : Hid (∀ k x, ns[k]? = some x → ∃ b off, va = some ⟨b, off, none⟩ ∧ w5.cell? ⟨b, off + k * 6, none⟩ = some (.int .i64 x.kd) ∧ w5.cell? ⟨b, off + k * 6 + 4, none⟩ = some (.string x.tx)) := fun k x hx => by
      obtain ⟨b, off, h1, h2⟩ := hacell (by rcases Nat.lt_or_ge k ns.length with h | h; · omega
                                            · rw [List.getElem?_eq_none h] at hx; cases hx)
      exact ⟨b, off, h1, h2 k x hx⟩
    have hvl : vl ≤ 1048576 := by omega
    clear hacell el
    have HNS : Hid (∀ x ∈ ns, x.tx.size ≤ 1048576) := by obtain ⟨_, _, _, _, _, h⟩ := HR3.out; exact fun x hx => (h x hx).2
    have HKN : Hid (∀ x ∈ ns, ∀ u, (∃ q, u = w5.drewN q) → Calls Tryd.prog 15 #[.string x.tx, .slice ka1 nk kc1, .string (⟨#[]⟩ : ByteArray), .bool false] u fun e w' => e = .returned (.bool (knownK x.tx N nk (⟨#[]⟩ : ByteArray) false)) ∧ w' = u) := fun x hx u hu => by
      obtain ⟨q, rfl⟩ := hu
      exact known_any x.tx (⟨#[]⟩ : ByteArray) false N nk _ _ (by have := HNS.out x hx; unfold maxLen; omega) (Nat.zero_le _) (by omega) (fun i hi => by have := HN1.out i hi; unfold maxLen; omega) (HK5.out.below (below_drewN w5 q))
    obtain ⟨i32, hi32⟩ := Option.isSome_iff_exists.1 (show (Tryd.prog.info? 32).isSome = true by kernel_rfl)
    go_wp2_with fail
    go_loopw [11, 12] (fun z i wx => ∃ k t : Nat, k ≤ vl ∧ t ≤ k ∧ z = .int .i64 t ∧ i = .int .i64 k ∧ wx = w5 ∧ Hid (t = ((ns.take k).filter (isTaken N nk (⟨#[]⟩ : ByteArray) false)).length)) (fun _ i _ => vl - (intOf i).toNat)
    case atStart => exact ⟨0, 0, Nat.zero_le _, Nat.le_refl _, rfl, rfl, rfl, rfl⟩
    case round =>
      obtain ⟨k, t, hk, ht, rfl, rfl, hw5, HTK⟩ := hrel
      replace hw5 := hw5.symm
      subst hw5
      by_cases hlt : k < vl
      · obtain ⟨x, hx⟩ : ∃ x, ns[k]? = some x := ⟨_, List.getElem?_eq_getElem (by rw [← HV.out]; exact hlt)⟩
        have HX : Hid (ns[k]? = some x) := hx
        obtain ⟨b, off, rfl, c0, c4⟩ := HAC.out k x hx
        have HKx : Hid (Calls Tryd.prog 15 #[.string x.tx, .slice ka1 nk kc1, .string (⟨#[]⟩ : ByteArray), .bool false] w5 fun e w' => e = .returned (.bool (knownK x.tx N nk (⟨#[]⟩ : ByteArray) false)) ∧ w' = w5) := HKN.out x (List.mem_of_getElem? hx) w5 ⟨0, rfl⟩
        have HNX : Hid (((ns.take (k + 1)).filter (isTaken N nk (⟨#[]⟩ : ByteArray) false)).length = t + (if isTaken N nk (⟨#[]⟩ : ByteArray) false x then 1 else 0)) := by
          show ((ns.take (k + 1)).filter (isTaken N nk (⟨#[]⟩ : ByteArray) false)).length = _
          rw [keep_next _ hx, List.length_append, ← HTK.out]
          cases isTaken N nk (⟨#[]⟩ : ByteArray) false x <;> rfl
        have htk0 := taken_known N nk (⟨#[]⟩ : ByteArray) false x
        clear hx
        have i1 : (k : Int) < (vl : Int) := by omega
        cases hv : x.kd == 2 with
        | false =>
          have HN2 : Hid (t = ((ns.take (k + 1)).filter (isTaken N nk (⟨#[]⟩ : ByteArray) false)).length) := by
            have h := HNX.out
            rw [htk0, hv] at h
            exact h.symm
          clear HNX htk0
          go_wp2_with fail
          go_roundw
          case rel => exact ⟨k + 1, t, by omega, by omega, by go_num, by go_num, trivial, HN2⟩
          case measure => simp [intOf]; omega
        | true =>
          cases hkn : knownK x.tx N nk (⟨#[]⟩ : ByteArray) false with
          | false =>
            rw [hkn] at HKx
            have HN2 : Hid (t = ((ns.take (k + 1)).filter (isTaken N nk (⟨#[]⟩ : ByteArray) false)).length) := by
              have h := HNX.out
              rw [htk0, hv, hkn] at h
              exact h.symm
            clear HNX htk0
            go_wp2_with fail
            refine HKx.out.mono ?_
            rintro e w6 ⟨rfl, rfl⟩
            go_wp2_with fail
            go_roundw
            case rel => exact ⟨k + 1, t, by omega, by omega, by go_num, by go_num, trivial, HN2⟩
            case measure => simp [intOf]; omega
          | true =>
            rw [hkn] at HKx
            have HN2 : Hid (t + 1 = ((ns.take (k + 1)).filter (isTaken N nk (⟨#[]⟩ : ByteArray) false)).length) := by
              have h := HNX.out
              rw [htk0, hv, hkn] at h
              exact h.symm
            clear HNX htk0
            go_wp2_with fail
            refine HKx.out.mono ?_
            rintro e w6 ⟨rfl, rfl⟩
            go_wp2_with fail
            go_roundw
            case rel => exact ⟨k + 1, t + 1, by omega, by omega, by go_num, by go_num, trivial, HN2⟩
            case measure => simp [intOf]; omega
      · obtain rfl : k = vl := by omega
        have hsub : (k : Int) - (t : Int) = (rl : Int) := by
          have h1 := HTK.out
          rw [HV.out, List.take_length] at h1
          have h2 := parts_len (isTaken N nk (⟨#[]⟩ : ByteArray) false) ns
          rw [HRL.out, ← h1, ← HV.out] at h2
          omega
        clear HAC
        go_wp2_with fail
        go_loopw [13] (fun i wx => ∃ j : Nat, j ≤ rl ∧ i = .int .i64 j ∧ Hid (∃ q, wx = w5.drewN q)) (fun i _ => rl - (intOf i).toNat)
        case atStart => exact ⟨0, Nat.zero_le _, rfl, 0, rfl⟩
        case round =>
          obtain ⟨j, hj, rfl, HW⟩ := hrel
          clear hsub
          by_cases hlt2 : j < rl
          · obtain ⟨x, hx⟩ : ∃ x, (ns.filter fun x => !isTaken N nk (⟨#[]⟩ : ByteArray) false x)[j]? = some x := ⟨_, List.getElem?_eq_getElem (by rw [HRL.out]; exact hlt2)⟩
            have hxm := List.mem_of_getElem? hx
            have hxn := List.mem_filter.1 hxm
            have htk : isTaken N nk (⟨#[]⟩ : ByteArray) false x = false := by have := hxn.2; simpa using this
            obtain ⟨G, rfl, hG⟩ := HRC.out (by omega)
            obtain ⟨F, rfl, hF⟩ := HSC.out (by omega)
            have g0 : wr.cell? ⟨G, j, none⟩ = some (.pointer (some ⟨x.p, 0, none⟩)) := by
              obtain ⟨q, hq⟩ := HW.out
              rw [hq]; exact cell_below (below_drewN w5 q) (hG j x hx)
            have f0 : wr.cell? ⟨F, j, none⟩ = some (.pointer (some ⟨x.p, 0, none⟩)) := by
              obtain ⟨q, hq⟩ := HW.out
              rw [hq]; exact cell_below (below_drewN w5 q) (hF j x hx)
            have HG : Hid (w5.cell? ⟨G, j, none⟩ = some (.pointer (some ⟨x.p, 0, none⟩))) := hG j x hx
            have HXD : Hid (NdAt w5 x) := HND5.out x hxm
            have HKx : Hid (∀ u, (∃ q, u = w5.drewN q) → Calls Tryd.prog 15 #[.string x.tx, .slice ka1 nk kc1, .string (⟨#[]⟩ : ByteArray), .bool false] u fun e w' => e = .returned (.bool (knownK x.tx N nk (⟨#[]⟩ : ByteArray) false)) ∧ w' = u) := HKN.out x hxn.1
            have htk0 := taken_known N nk (⟨#[]⟩ : ByteArray) false x
            rw [htk] at htk0
            have HTK0 : Hid (false = (x.kd == 2 && knownK x.tx N nk (⟨#[]⟩ : ByteArray) false)) := htk0
            clear htk0
            have i2 : (j : Int) < (rl : Int) := by omega
            have hpne := fun u => Lib.run_neq_ptr_same (P := Tryd.prog) u ⟨x.p, 0, none⟩ Tryd.underlying27 hi32
            clear hG hF hx hxm hxn htk
            go_wp2_with fail
            go_quiet (fail)
            have HW2 : Hid (∃ q, wr.drewN nq = w5.drewN q) := drewN_more HW.out nq
            generalize wr.drewN nq = wq at HW2 ⊢
            clear g0 f0 hpne
            have g1 : wq.cell? ⟨G, j, none⟩ = some (.pointer (some ⟨x.p, 0, none⟩)) := by
              obtain ⟨q, hq⟩ := HW2.out
              rw [hq]; exact cell_below (below_drewN w5 q) HG.out
            have x0 : wq.cell? ⟨x.p, 0, none⟩ = some (.int .i64 x.kd) := by
              obtain ⟨q, hq⟩ := HW2.out
              rw [hq]; simpa using (HXD.out.below (below_drewN w5 q)).1.c0
            have x4 : wq.cell? ⟨x.p, 4, none⟩ = some (.string x.tx) := by
              obtain ⟨q, hq⟩ := HW2.out
              rw [hq]; simpa using (HXD.out.below (below_drewN w5 q)).1.c4
            cases hv : x.kd == 2 with
            | false =>
              go_wp2_with fail
              go_roundw
              case rel => exact ⟨j + 1, by omega, by go_num, HW2⟩
              case measure => simp [intOf]; omega
            | true =>
              have hkn : knownK x.tx N nk (⟨#[]⟩ : ByteArray) false = false := by have htk0 := HTK0.out; rw [hv] at htk0; exact htk0.symm
              rw [hkn] at HKx
              clear HTK0 hkn
              go_wp2_with fail
              refine (HKx.out _ HW2.out).mono ?_
              rintro e w6 ⟨rfl, rfl⟩
              go_wp2_with fail
              go_roundw
              case rel => exact ⟨j + 1, by omega, by go_num, HW2⟩
              case measure => simp [intOf]; omega
          · obtain rfl : j = rl := by omega
            have HEQ : Hid (Below w.heap.size w wr) := by
              obtain ⟨q, hq⟩ := HW.out
              rw [hq]; exact HE.out.trans ((below_drewN w5 q).mono HE.out.size)
            go_wp2_with fail
            go_ret
            exact ⟨rfl, HEQ.out⟩
end Go.Proofs.Qxb6604659aDoor
