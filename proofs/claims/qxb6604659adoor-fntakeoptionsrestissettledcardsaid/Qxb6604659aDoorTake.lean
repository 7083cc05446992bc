/-
  SEAT b6604659aD: TakeOptions.
-/
import Derived.Test.Qxb6604659aDoorSet
import Derived.Test.Qxb6604659aDoorPConv
import Derived.Laws.AppendOwn
import Derived.OwnWalk
namespace Go.Proofs.Qxb6604659aDoor
open Go Go.RowKit Go.Maps
set_option linter.unusedVariables false
set_option linter.unusedSimpArgs false

/-- a node: where it lies, what it holds. -/
structure Nd where
  p : Nat
  kd : Int
  fl : ByteArray
  ln : Int
  cl : Int
  tx : ByteArray
  ag : Value
def NdAt (w : World) (x : Nd) : Prop := LAt w x.p 0 x.kd x.fl x.ln x.cl x.tx x.ag ∧ x.tx.size ≤ 1048576
theorem NdAt.below {w w' : World} {x : Nd} (h : NdAt w x) (hb : Below w.heap.size w w') : NdAt w' x := ⟨h.1.below hb, h.2⟩
def ptr (x : Nd) : Value := .pointer (some ⟨x.p, 0, none⟩)

/-- a slice of nodes. -/
def NRow (w : World) (v : Value) (ns : List Nd) : Prop :=
  ∃ a c, v = .slice a ns.length c ∧ (a = none → ns.length = 0 ∧ c = 0) ∧ (0 < ns.length → ∃ F, a = some ⟨F, 0, none⟩ ∧ ∀ i x, ns[i]? = some x → w.cell? ⟨F, i, none⟩ = some (ptr x)) ∧ ∀ x ∈ ns, NdAt w x
theorem NRow.below {w w' : World} {v : Value} {ns : List Nd} (h : NRow w v ns) (hb : Below w.heap.size w w') : NRow w' v ns := by
  obtain ⟨a, c, h1, h2, h3, h4⟩ := h
  refine ⟨a, c, h1, h2, fun hn => ?_, fun x hx => (h4 x hx).below hb⟩
  obtain ⟨F, hF, h5⟩ := h3 hn
  exact ⟨F, hF, fun i x hx => cell_below hb (h5 i x hx)⟩

theorem ownsRow_below {w w' : World} {base : Nat} {e : TypeId} {size : Nat} {v : Value} {n : Nat} {xs : List Value} (h : w.ownsRow base e size v n xs) (hb : Below w.heap.size w w') : w'.ownsRow base e size v n xs := by
  refine World.ownsRow.kept (row := none) h ⟨hb.os, hb.tape, hb.output, hb.size, fun k hk _ => hb.block k hk⟩ ?_
  cases hv : v.ownBlock <;> simp

section
variable (N : Nat → ByteArray) (nk : Nat) (fk : ByteArray) (fail : Bool)
/-- is the node an option that has a setter? -/
def isTaken (x : Nd) : Bool := x.kd == 2 && (setter x.tx N nk fk fail).isSome
def isRefused (x : Nd) : Bool := x.kd == 2 && (fail && isKey x.tx fk)
end
theorem setter_refused {s : ByteArray} {N : Nat → ByteArray} {n : Nat} {fk : ByteArray} {fail : Bool} (h : (fail && isKey s fk) = true) : setter s N n fk fail = some 20 := by
  unfold setter; rw [h, if_pos rfl]
theorem setter_other {s : ByteArray} {N : Nat → ByteArray} {n : Nat} {fk : ByteArray} {fail : Bool} (h : (fail && isKey s fk) = false) : setter s N n fk fail = if hasKey s N n then some 19 else none := by
  unfold setter; rw [h, if_neg (by simp)]

/-- what TakeOptions says. -/
def TakeSays (N : Nat → ByteArray) (nk : Nat) (fk : ByteArray) (fail : Bool) (ns : List Nd) (w : World) (e : Ending) (w' : World) : Prop :=
  Below w.heap.size w w' ∧
  ((ns.any (isRefused fk fail) = true ∧ ∃ x, e = .returned (.tuple #[.slice none 0 0, .iface 56 x])) ∨
   (ns.any (isRefused fk fail) = false ∧ ∃ v n, e = .returned (.tuple #[v, .nilIface]) ∧ w'.ownsRow w.heap.size 27 1 v n ((ns.filter fun x => !isTaken N nk fk fail x).map ptr)))

theorem take_next {ns : List Nd} {k : Nat} {x : Nd} (h : ns[k]? = some x) : ns.take (k + 1) = ns.take k ++ [x] := by
  rw [List.take_add_one, h]; rfl
theorem keep_next {ns : List Nd} {k : Nat} {x : Nd} (f : Nd → Bool) (h : ns[k]? = some x) : (ns.take (k + 1)).filter f = (ns.take k).filter f ++ (if f x then [x] else []) := by
  rw [take_next h, List.filter_append]
  congr 1
  cases hf : f x <;> simp [hf]
theorem any_next {ns : List Nd} {k : Nat} {x : Nd} (f : Nd → Bool) (h : ns[k]? = some x) : (ns.take (k + 1)).any f = ((ns.take k).any f || f x) := by
  rw [take_next h, List.any_append]; simp
theorem any_of_take {ns : List Nd} {k : Nat} {x : Nd} (f : Nd → Bool) (h : ns[k]? = some x) (hf : f x = true) : ns.any f = true :=
  List.any_eq_true.2 ⟨x, List.mem_of_getElem? h, hf⟩

set_option maxRecDepth 100000 in
set_option maxHeartbeats 2000000 in
theorem take_cells (N : Nat → ByteArray) (nk : Nat) (fk : ByteArray) (fail : Bool) (ns : List Nd) (F cap m cnt : Nat) (w : World) (hsh : w.ShapedOpen Tryd.prog) (hL : ns.length ≤ 1048576)
    (hc : ∀ i x, ns[i]? = some x → w.cell? ⟨F, i, none⟩ = some (ptr x)) (hd : ∀ x ∈ ns, NdAt w x) (hm : w.ownsMap Tryd.prog 9 fnElem m cnt (setAll N nk fk fail)) :
    Calls Tryd.prog 12 #[.slice (some ⟨F, 0, none⟩) ns.length cap, .map (some m)] w fun e w' => TakeSays N nk fk fail ns w e w' := by
  have HC : Hid (∀ i x, ns[i]? = some x → w.cell? ⟨F, i, none⟩ = some (ptr x)) := hc
  have HD : Hid (∀ x ∈ ns, NdAt w x) := hd
  have HM : Hid (w.ownsMap Tryd.prog 9 fnElem m cnt (setAll N nk fk fail)) := hm
  have HSH : Hid (w.ShapedOpen Tryd.prog) := hsh
  obtain ⟨i0, hi, hz0, hz1, hz2⟩ := info_parts pinfo27
  clear hc hd hm hsh
  generalize hlen : ns.length = L at hL ⊢
  have HLen : Hid (ns.length = L) := hlen
  clear hlen
  go_enter Tryd.func12, Tryd.ntmps12
  go_wp2
  go_loopw [6, 14] (fun v i wx => ∃ (k n : Nat) (rv : Value), k ≤ L ∧ n ≤ k ∧ v = rv ∧ i = .int .i64 k ∧ Hid (wx.ownsRow w.heap.size 27 1 rv n (((ns.take k).filter fun x => !isTaken N nk fk fail x).map ptr)) ∧ Hid (Below w.heap.size w wx) ∧ Hid ((ns.take k).any (isRefused fk fail) = false)) (fun _ i _ => L - (intOf i).toNat)
  case atStart => exact ⟨0, 0, _, Nat.zero_le _, Nat.le_refl _, rfl, rfl, World.ownsRow_nil _ _ _ _, Below.refl _ _, rfl⟩
  case round =>
    obtain ⟨k, n, rv, hk, hnk, hrv, rfl, hown, HB, HR⟩ := hrel
    replace hrv := hrv.symm
    subst hrv
    by_cases hlt : k < L
    · obtain ⟨x, hx⟩ : ∃ x, ns[k]? = some x := ⟨_, List.getElem?_eq_getElem (by rw [HLen.out]; exact hlt)⟩
      have HX : Hid (ns[k]? = some x) := hx
      have hxd := HD.out x (List.mem_of_getElem? hx)
      have hcx : wr.cell? ⟨F, k, none⟩ = some (.pointer (some ⟨x.p, 0, none⟩)) := cell_below HB.out (HC.out k x hx)
      clear hx
      have hkey := key_any x.p x.tx wr (shaped_below HSH.out HB.out) (by simpa using (hxd.below HB.out).1.c4) hxd.2
      have HK : Hid (Calls Tryd.prog 18 #[.pointer (some ⟨x.p, 0, none⟩)] wr fun e w' => e = .returned (.string (canonB x.tx)) ∧ Below wr.heap.size wr w') := hkey
      have HLk : Hid (∀ u : World, Below w.heap.size w u → (Instr.lookup 43 (.map (some m)) (.string (canonB x.tx)) true).run Tryd.prog u = .ok (.tuple #[setterV (setter x.tx N nk fk fail), .bool (setter x.tx N nk fk fail).isSome]) u) :=
        fun u hu => look_set (ownsMap_below HM.out hu) (by have := hxd.2; unfold maxLen; omega)
      have HXD : Hid (NdAt w x) := hxd
      clear hkey hxd
      generalize canonB x.tx = ky at HK HLk
      have i1 : (k : Int) < (L : Int) := by omega
      go_wp2_with fail
      refine HK.out.mono ?_
      rintro e w2 ⟨rfl, hb2⟩
      have HB2 : Hid (Below w.heap.size w w2) := HB.out.trans (hb2.mono HB.out.size)
      have ho2 : Hid (w2.ownsRow w.heap.size 27 1 rv n (((ns.take k).filter fun x => !isTaken N nk fk fail x).map ptr)) := ownsRow_below hown.out hb2
      clear hb2 hcx
      have hlook := HLk.out w2 HB2.out
      have hkd : w2.cell? ⟨x.p, 0, none⟩ = some (.int .i64 x.kd) := by simpa using (HXD.out.below HB2.out).1.c0
      cases htk : isTaken N nk fk fail x with
      | false =>
        -- it stays
        have HNR : Hid ((ns.take (k + 1)).any (isRefused fk fail) = false) := by
          show (ns.take (k + 1)).any (isRefused fk fail) = false
          rw [any_next _ HX.out, HR.out, Bool.false_or]
          cases hr : isRefused fk fail x with
          | false => rfl
          | true =>
            exfalso
            unfold isRefused at hr
            rw [Bool.and_eq_true] at hr
            unfold isTaken at htk
            rw [hr.1, setter_refused hr.2] at htk
            cases htk
        have HKeep : Hid (((ns.take (k + 1)).filter fun x => !isTaken N nk fk fail x).map ptr = ((ns.take k).filter fun x => !isTaken N nk fk fail x).map ptr ++ [.pointer (some ⟨x.p, 0, none⟩)]) := by
          show ((ns.take (k + 1)).filter fun x => !isTaken N nk fk fail x).map ptr = _
          rw [keep_next _ HX.out, htk, List.map_append]; rfl
        have hsz2 := HB2.out.size
        have hcase : (x.kd != 2) = true ∨ ((x.kd != 2) = false ∧ (setter x.tx N nk fk fail).isSome = false) := by
          unfold isTaken at htk
          cases h2 : x.kd == 2 with
          | false => exact .inl (by rw [bne, h2]; rfl)
          | true =>
            rw [h2, Bool.true_and] at htk
            exact .inr ⟨by rw [bne, h2]; rfl, htk⟩
        clear htk
        rcases hcase with hv | ⟨hv, hv2⟩
        · go_wp2_with (at_builtin; refine wpList_append_own _ rfl _ _ 25 rfl w.heap.size 27 i0 (.pointer none) 1 8 Tryd.underlying25 hi hz0 hz1 hz2 rfl (by decide) _ _ _ rfl (ho2.out.alloc _) ⟨w2.heap.size, 0, none⟩ 1 1 [.pointer (some ⟨x.p, 0, none⟩)] rfl rfl ?c1 ?c2 ?c3 ?c4 ?c5 ?_)
          case c1 => intro j u hj; match j, hj with | 0, hj => simp at hj; subst hj; simp [Addr.add]
          case c2 => intro u hu; simp at hu; subst hu; rfl
          case c3 => unfold maxLen; omega
          case c4 => omega
          case c5 => simp; omega
          intro v' w3 hown3 hgrow _
          have ho3 : Hid (w3.ownsRow w.heap.size 27 1 v' (n + 1) (((ns.take (k + 1)).filter fun x => !isTaken N nk fk fail x).map ptr)) := by
            show World.ownsRow _ _ _ _ _ _ _
            rw [HKeep.out]; exact hown3
          have hb3 : Hid (Below w.heap.size w w3) := (HB2.out.alloc hsz2 _).grown hgrow (by simp; omega) (fun j hj => (ho2.out.lt j hj).1)
          clear hown3 hgrow
          go_wp2_with fail
          go_roundw
          case rel => exact ⟨k + 1, n + 1, v', by omega, by omega, rfl, by go_num, ho3, hb3, HNR⟩
          case measure => simp [intOf]; omega
        · rw [hv2] at hlook
          go_wp2_with (at_builtin; refine wpList_append_own _ rfl _ _ 25 rfl w.heap.size 27 i0 (.pointer none) 1 8 Tryd.underlying25 hi hz0 hz1 hz2 rfl (by decide) _ _ _ rfl (ho2.out.alloc _) ⟨w2.heap.size, 0, none⟩ 1 1 [.pointer (some ⟨x.p, 0, none⟩)] rfl rfl ?c1 ?c2 ?c3 ?c4 ?c5 ?_)
          case c1 => intro j u hj; match j, hj with | 0, hj => simp at hj; subst hj; simp [Addr.add]
          case c2 => intro u hu; simp at hu; subst hu; rfl
          case c3 => unfold maxLen; omega
          case c4 => omega
          case c5 => simp; omega
          intro v' w3 hown3 hgrow _
          have ho3 : Hid (w3.ownsRow w.heap.size 27 1 v' (n + 1) (((ns.take (k + 1)).filter fun x => !isTaken N nk fk fail x).map ptr)) := by
            show World.ownsRow _ _ _ _ _ _ _
            rw [HKeep.out]; exact hown3
          have hb3 : Hid (Below w.heap.size w w3) := (HB2.out.alloc hsz2 _).grown hgrow (by simp; omega) (fun j hj => (ho2.out.lt j hj).1)
          clear hown3 hgrow
          go_wp2_with fail
          go_roundw
          case rel => exact ⟨k + 1, n + 1, v', by omega, by omega, rfl, by go_num, ho3, hb3, HNR⟩
          case measure => simp [intOf]; omega
      | true =>
        have hT := htk
        unfold isTaken at hT
        rw [Bool.and_eq_true] at hT
        have hv : (x.kd != 2) = false := by rw [bne, hT.1]; rfl
        cases hr : (fail && isKey x.tx fk) with
        | true =>
          -- its setter refuses
          have HRef : Hid (ns.any (isRefused fk fail) = true) := any_of_take _ HX.out (by unfold isRefused; rw [hT.1, hr]; rfl)
          have hs20 : setter x.tx N nk fk fail = some 20 := setter_refused hr
          have HRf : Hid (Calls Tryd.prog 20 #[.pointer (some ⟨x.p, 0, none⟩)] w2 fun e w' => e = .returned (.iface 56 (.pointer (some ⟨w2.heap.size, 0, none⟩))) ∧ Below w2.heap.size w2 w') := refuse_any x.p _ _ _ _ _ _ w2 (HXD.out.below HB2.out).1
          rw [hs20] at hlook
          replace hlook : (Instr.lookup 43 (.map (some m)) (.string ky) true).run Tryd.prog w2 = .ok (.tuple #[.func (.func 20) #[] #[], .bool true]) w2 := hlook
          clear hT hr hs20 htk
          go_wp2_with fail
          refine HRf.out.mono ?_
          rintro e w3 ⟨rfl, hb3⟩
          have HB3 : Below w.heap.size w w3 := HB2.out.trans (hb3.mono HB2.out.size)
          go_wp2_with fail
          go_ret2
          exact ⟨HB3, .inl ⟨HRef.out, _, rfl⟩⟩
        | false =>
          have hs19 : setter x.tx N nk fk fail = some 19 := by
            have h := hT.2
            rw [setter_other hr] at h ⊢
            split at h
            · rename_i hh; rw [if_pos hh]
            · cases h
          have HNR : Hid ((ns.take (k + 1)).any (isRefused fk fail) = false) := by
            show (ns.take (k + 1)).any (isRefused fk fail) = false
            rw [any_next _ HX.out, HR.out, Bool.false_or]
            unfold isRefused
            rw [hr, Bool.and_false]
          have HKeep : Hid (((ns.take (k + 1)).filter fun x => !isTaken N nk fk fail x).map ptr = ((ns.take k).filter fun x => !isTaken N nk fk fail x).map ptr) := by
            show ((ns.take (k + 1)).filter fun x => !isTaken N nk fk fail x).map ptr = _
            rw [keep_next _ HX.out, htk]; simp
          have HAc : Hid (Calls Tryd.prog 19 #[.pointer (some ⟨x.p, 0, none⟩)] w2 fun e w' => e = .returned .nilIface ∧ w' = w2) := accept_any _ w2
          have ho3 : Hid (w2.ownsRow w.heap.size 27 1 rv n (((ns.take (k + 1)).filter fun x => !isTaken N nk fk fail x).map ptr)) := by
            show World.ownsRow _ _ _ _ _ _ _
            rw [HKeep.out]; exact ho2.out
          rw [hs19] at hlook
          replace hlook : (Instr.lookup 43 (.map (some m)) (.string ky) true).run Tryd.prog w2 = .ok (.tuple #[.func (.func 19) #[] #[], .bool true]) w2 := hlook
          clear hT hr hs19 htk
          go_wp2_with fail
          refine HAc.out.mono ?_
          rintro e w3 ⟨rfl, rfl⟩
          go_wp2_with fail
          go_roundw
          case rel => exact ⟨k + 1, n, rv, by omega, by omega, rfl, by go_num, ho3, HB2, HNR⟩
          case measure => simp [intOf]; omega
    · obtain rfl : k = L := by omega
      have HT : Hid (ns.take k = ns) := by
        show ns.take k = ns
        rw [← HLen.out, List.take_length]
      have h1 := HR.out
      have h2 := hown.out
      rw [HT.out] at h1 h2
      have H1 : Hid (ns.any (isRefused fk fail) = false) := h1
      have H2 : Hid (wr.ownsRow w.heap.size 27 1 rv n ((ns.filter fun x => !isTaken N nk fk fail x).map ptr)) := h2
      clear h1 h2
      go_wp2_with fail
      go_ret2
      exact ⟨HB.out, .inr ⟨H1.out, rv, n, rfl, H2.out⟩⟩

set_option maxRecDepth 100000 in
set_option maxHeartbeats 1000000 in
theorem take_empty (N : Nat → ByteArray) (nk : Nat) (fk : ByteArray) (fail : Bool) (a : Option Addr) (cap m : Nat) (w : World) :
    Calls Tryd.prog 12 #[.slice a 0 cap, .map (some m)] w fun e w' => TakeSays N nk fk fail [] w e w' := by
  go_enter Tryd.func12, Tryd.ntmps12
  go_wp2
  go_loopw [6, 14] (fun v i wx => v = .slice none 0 0 ∧ i = .int .i64 0 ∧ wx = w) (fun _ i _ => 0)
  case atStart => exact ⟨rfl, rfl, rfl⟩
  case round =>
    obtain ⟨rfl, rfl, rfl⟩ := hrel
    go_wp2_with fail
    go_ret2
    exact ⟨Below.refl _ _, .inr ⟨rfl, _, 0, rfl, World.ownsRow_nil _ _ _ _⟩⟩

theorem take_any (N : Nat → ByteArray) (nk : Nat) (fk : ByteArray) (fail : Bool) (ns : List Nd) (v : Value) (m cnt : Nat) (w : World) (hsh : w.ShapedOpen Tryd.prog) (hL : ns.length ≤ 1048576)
    (hv : NRow w v ns) (hm : w.ownsMap Tryd.prog 9 fnElem m cnt (setAll N nk fk fail)) :
    Calls Tryd.prog 12 #[v, .map (some m)] w fun e w' => TakeSays N nk fk fail ns w e w' := by
  obtain ⟨a, c, rfl, h2, h3, h4⟩ := hv
  by_cases hn0 : 0 < ns.length
  · obtain ⟨F, rfl, hc⟩ := h3 hn0
    exact take_cells N nk fk fail ns F c m cnt w hsh hL hc h4 hm
  · obtain rfl : ns = [] := List.eq_nil_of_length_eq_zero (by omega)
    exact take_empty N nk fk fail a c m w
end Go.Proofs.Qxb6604659aDoor
