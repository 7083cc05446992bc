/-
  SEAT b6604306aD: isDomain: strings.Split's pieces, each asked in turn.
-/
import Derived.Test.Qxb6604306aDoorShelfS
import Derived.Test.Qxb6604306aDoorW1
import Derived.Test.Qxb6604306aDoorIdx
import Derived.WalkKit
namespace Go.Proofs.Qxb6604306aDoor
open Go Go.RowKit Plain
set_option linter.unusedVariables false
set_option linter.unusedSimpArgs false

theorem domainLit_grows (w : World) : PredGrows Tryd.prog 21 #[] offD w := by
  intro W x hx hb
  refine (domainLit_any x W (by omega)).mono ?_
  rintro e w' ⟨rfl, rfl⟩
  exact ⟨rfl, Below.refl _ _⟩
theorem enters21 : ∀ args w, (callFunc 21 args).run Tryd.prog w = .ok (.enter 21 args) w := enters_of Tryd.func21 (by kernel_rfl) rfl

def dotB : ByteArray := ⟨#[46]⟩
theorem split_pieces (s : ByteArray) : (Lib.splitB dotB 0 (Lib.countB s dotB) s).map (·.data.toList) = pieces s.data.toList := by
  rw [Lib.splitB_data, ← splitK_pieces]; rfl

theorem toList_nil (b : ByteArray) (h : b.size = 0) : b.toList = [] := by
  have := Lib.toList_data b
  rw [this]
  exact List.eq_nil_of_length_eq_zero (by simpa using h)
theorem toList_ne (b : ByteArray) (h : 0 < b.size) : ¬ b.toList = [] := by
  rw [Lib.toList_data b]
  intro e
  have : b.data.toList.length = 0 := by rw [e]; rfl
  have h2 : b.data.toList.length = b.size := by simp
  omega

theorem goodD_nil (b : ByteArray) (h : b.size = 0) : goodD b.data.toList = false := by
  have : b.data.toList = [] := List.eq_nil_of_length_eq_zero (by simpa using h)
  rw [this]; rfl
theorem offD_high (x : Nat) (h : 128 ≤ x) : offD x = true := by
  unfold offD ldh isLD
  have h1 : decide (x ≤ 122) = false := decide_eq_false (by omega)
  have h2 : decide (x ≤ 90) = false := decide_eq_false (by omega)
  have h3 : decide (x ≤ 57) = false := decide_eq_false (by omega)
  have h4 : (x == 45) = false := beq_eq_false_iff_ne.2 (by omega)
  simp [h1, h2, h3, h4]
theorem head_at (b : ByteArray) (h : 0 < b.size) : b.data.toList.headD 0 = b[0] := by
  have e := Lib.data_getElem? b 0 h
  cases hl : b.data.toList with
  | nil => rw [hl] at e; simp at e
  | cons c l => rw [hl] at e; simpa using e
theorem last_at (b : ByteArray) (h : 0 < b.size) : b.data.toList.getLastD 0 = b[b.size - 1]'(by omega) := by
  have e := Lib.data_getElem? b (b.size - 1) (by omega)
  have h2 : b.data.toList.length = b.size := by simp
  rw [List.getLastD_eq_getLast?, List.getLast?_eq_getElem?, h2, e]; rfl
theorem goodD_eq (b : ByteArray) (h : 0 < b.size) : goodD b.data.toList = (decide (b.size ≤ 63) && (b[0] != 45) && ((b[b.size - 1]'(by omega)) != 45) && !(decide (0 ≤ Lib.idxFunc offD true b))) := by
  unfold goodD
  have h2 : b.data.toList.length = b.size := by simp
  have h3 : b.data.toList.isEmpty = false := by
    rw [Bool.eq_false_iff]; intro e
    have := List.isEmpty_iff.1 e
    rw [this] at h2; simp at h2; omega
  have h4 : (fun c : UInt8 => !offD c.toNat) = fun c : UInt8 => ldh c.toNat := by funext c; simp [offD]
  rw [h2, h3, head_at b h, last_at b h, idx_neg offD offD_high b, Bool.not_not, h4]
  rfl

theorem all_at {L : List ByteArray} {k : Nat} (hk : k < L.length) (f : ByteArray → Bool) : (L.drop k).all f = (f L[k] && (L.drop (k + 1)).all f) := by
  rw [List.drop_eq_getElem_cons hk, List.all_cons]

set_option maxHeartbeats 2000000 in
theorem isDomain_any (s : ByteArray) (w : World) (hsh : w.ShapedOpen Tryd.prog) (hs : s.size ≤ 1048576) :
    Calls Tryd.prog 15 #[.string s] w fun e w' => e = .returned (.bool ((pieces s.data.toList).all goodD)) ∧ Below w.heap.size w w' := by
  have hsp := split_pieces s
  have hlen := Lib.splitB_all dotB (by decide) 0 _ s rfl
  have hcnt := Lib.countB_le dotB (by decide) s.size s (Nat.le_refl _)
  have cS := Tryd.strings_Split_shaped s dotB w hsh (by omega) (by decide)
  generalize Lib.splitB dotB 0 (Lib.countB s dotB) s = L at hsp hlen cS
  generalize Lib.countB s dotB = n at hlen cS hcnt
  have HSP : Hid (L.map (·.data.toList) = pieces s.data.toList) := hsp
  have HLN : Hid (L.length = n + 1) := hlen
  have HCS : Hid (Calls Tryd.prog 17 #[.string s, .string ⟨#[46]⟩] w fun e w' => e = .returned (.slice (some ⟨w.heap.size, 0, none⟩) (n + 1) (n + 1)) ∧ w' = w.alloc (.cells (L.map Value.string).toArray 9)) := cS
  clear hsp hlen cS hsh
  go_enter Tryd.func15, Tryd.ntmps15
  go_wp2_with fail
  refine HCS.out.mono ?_
  rintro e w1 ⟨rfl, hw1⟩
  have hb1 : Below w.heap.size w w1 := by rw [hw1]; exact (Below.refl _ w).alloc (Nat.le_refl _) _
  have hcell : ∀ k (hk : k < L.length), w1.cell? ⟨w.heap.size, k, none⟩ = some (.string L[k]) := by
    intro k hk
    rw [hw1]
    simp [hk]
  have hsz : w.heap.size + 1 ≤ w1.heap.size := by rw [hw1]; simp
  have HC : Hid (∀ k (hk : k < L.length), w1.cell? ⟨w.heap.size, k, none⟩ = some (.string L[k])) := hcell
  clear hw1 hcell
  go_wp2_with fail
  go_loopw [8] (fun i wx => ∃ k : Nat, k ≤ n + 1 ∧ i = .int .i64 k ∧ Below (w.heap.size + 1) w1 wx ∧ Hid ((L.drop k).all (fun b => goodD b.data.toList) = (pieces s.data.toList).all goodD)) (fun i _ => n + 1 - (intOf i).toNat)
  case atStart => exact ⟨0, Nat.zero_le _, rfl, Below.refl _ _, by show _ = _; rw [← HSP.out, List.drop_zero, List.all_map]; rfl⟩
  case round =>
    obtain ⟨k, hk, rfl, hbx, HD⟩ := hrel
    have hbw : Below w.heap.size w wr := hb1.trans (hbx.mono (by omega))
    by_cases hlt : k < n + 1
    · have hkL : k < L.length := by rw [HLN.out]; exact hlt
      have hc : wr.cell? ⟨w.heap.size, k, none⟩ = some (.string L[k]) := by rw [hbx.cell (p := ⟨w.heap.size, k, none⟩) (by simp)]; exact HC.out k hkL
      have HD2 : Hid ((goodD L[k].data.toList && (L.drop (k + 1)).all (fun b => goodD b.data.toList)) = (pieces s.data.toList).all goodD) := by
        have := HD.out; rw [all_at hkL] at this; exact this
      generalize hl : L[k] = lab at hc HD2
      clear hl HD hkL
      by_cases h0 : 0 < lab.size
      · have HG : Hid _ := goodD_eq lab h0
        have hne := toList_ne lab h0
        have hie : lab.toList.isEmpty = false := by rw [Bool.eq_false_iff]; intro e; exact hne (List.isEmpty_iff.1 e)
        by_cases h63 : lab.size ≤ 63
        · by_cases hf : lab[0] = 45
          · have hv : ((lab[0].toNat : Int) == 45) = true := byteI_eq hf
            have HZ : Hid (goodD lab.data.toList = false) := by show _ = _; rw [HG.out, hf]; simp
            clear hf HG
            go_wp2_with fail
            go_ret
            exact ⟨ret_bool (by rw [← HD2.out, HZ.out]; rfl), hbw⟩
          · have hv : ((lab[0].toNat : Int) == 45) = false := byteI_ne hf
            have hlast : lab.size - 1 < lab.size := by omega
            by_cases he : lab[lab.size - 1] = 45
            · have hv2 : ((lab[lab.size - 1].toNat : Int) == 45) = true := byteI_eq he
              have HZ : Hid (goodD lab.data.toList = false) := by show _ = _; rw [HG.out, he]; simp
              clear hf he HG
              go_wp2_with fail
              go_ret
              exact ⟨ret_bool (by rw [← HD2.out, HZ.out]; rfl), hbw⟩
            · have hv2 : ((lab[lab.size - 1].toNat : Int) == 45) = false := byteI_ne he
              have HZ : Hid (goodD lab.data.toList = !(decide (0 ≤ Lib.idxFunc offD true lab))) := by
                show _ = _
                rw [HG.out, decide_eq_true h63, bne_iff_ne.2 hf, bne_iff_ne.2 he]; rfl
              clear hf he HG
              go_wp2_with fail
              refine (Tryd.strings_IndexFunc_grows 21 #[] enters21 offD lab _ (domainLit_grows _)).mono ?_
              rintro e w2 ⟨rfl, hb2⟩
              have hb3 : Below (w.heap.size + 1) w1 w2 := hbx.trans (hb2.mono (by have := hbx.size; omega))
              have hb4 : Below w.heap.size w w2 := hb1.trans (hb3.mono (by omega))
              generalize Lib.idxFunc offD true lab = I at HZ ⊢
              by_cases hI : 0 ≤ I
              · have HY : Hid (goodD lab.data.toList = false) := by show _ = _; rw [HZ.out, decide_eq_true hI]; rfl
                go_wp2_with fail
                go_ret
                exact ⟨ret_bool (by rw [← HD2.out, HY.out]; rfl), hb4⟩
              · have HY : Hid (goodD lab.data.toList = true) := by show _ = _; rw [HZ.out, decide_eq_false hI]; rfl
                go_wp2_with fail
                go_roundw
                case rel => exact ⟨k + 1, by omega, by go_num, hb3, by show _ = _; rw [← HD2.out, HY.out]; rfl⟩
                case measure => simp [intOf]; omega
        · have HZ : Hid (goodD lab.data.toList = false) := by show _ = _; rw [HG.out, decide_eq_false h63]; rfl
          clear HG
          go_wp2_with fail
          go_ret
          exact ⟨ret_bool (by rw [← HD2.out, HZ.out]; rfl), hbw⟩
      · have HZ : Hid (goodD lab.data.toList = false) := goodD_nil lab (by omega)
        have hnil := toList_nil lab (by omega)
        go_wp2_with fail
        go_ret
        exact ⟨ret_bool (by rw [← HD2.out, HZ.out]; rfl), hbw⟩
    · have HN : Hid (true = (pieces s.data.toList).all goodD) := by
        have := HD.out; rw [List.drop_eq_nil_of_le (by rw [HLN.out]; omega)] at this; exact this
      clear HD
      go_wp2_with fail
      go_ret
      exact ⟨ret_bool (by rw [← HN.out]), hbw⟩
end Go.Proofs.Qxb6604306aDoor
