/-
  DERIVED: THE SHELF's CONTRACTS AT THIS DUMP, IN PLAIN WORDS (tools/lay-plain.mjs out of 'TrydShelf.lean', which tools/lay-shelf.mjs wrote): THE SAME DECLARATIONS UNDER THE SAME NAMES: 'import', 'namespace', 'open', 'def', 'theorem' AND NOTHING ELSE: no command of the shelf's: FOR A HAND-IN. Each laying: the table of numbers ('.._ren') and one theorem, a field a fact of the dump's own or the kernel's comparison; each contract: ONE APPLICATION.
-/
import Derived.Shelf.Strings.SplitShaped
import Derived.Shelf.Strings.FuncGrows
import Derived.Test.Qxb6604306aDoorProg
namespace Go.Proofs
open Go.Shelf
def Tryd.laysGw15_ren : Go.Shelf.Ren := ⟨fun | 15 => 18 | 20 => 24 | n => n, fun | 9 => 9 | 23 => 27 | 3 => 3 | 4 => 4 | 0 => 0 | 21 => 21 | n => n, fun | n => n⟩
theorem Tryd.laysGw15 : Go.Proofs.LaysGw.n15 Tryd.prog Tryd.laysGw15_ren := {
  mixed := by kernel_rfl
  f15 := Tryd.func18.trans (congrArg some (by kernel_rfl))
  f20 := Tryd.func24.trans (congrArg some (by kernel_rfl))
  t0 := Tryd.underlying0
  a0 := Tryd.isAgg0
  z0 := Tryd.sizeOf0
  v0 := Tryd.zeroValue0
  i0 := by kernel_rfl
  t3 := Tryd.underlying3
  a3 := Tryd.isAgg3
  z3 := Tryd.sizeOf3
  v3 := Tryd.zeroValue3
  i3 := by kernel_rfl
  t4 := Tryd.underlying4
  a4 := Tryd.isAgg4
  z4 := Tryd.sizeOf4
  v4 := Tryd.zeroValue4
  i4 := by kernel_rfl
  t9 := Tryd.underlying9
  a9 := Tryd.isAgg9
  z9 := Tryd.sizeOf9
  v9 := Tryd.zeroValue9
  i9 := by kernel_rfl
  t21 := Tryd.underlying21
  a21 := Tryd.isAgg21
  z21 := Tryd.sizeOf21
  v21 := Tryd.zeroValue21
  i21 := by kernel_rfl
  t23 := Tryd.underlying27
  a23 := Tryd.isAgg27
  z23 := Tryd.sizeOf27
  v23 := Tryd.zeroValue27
  i23 := by kernel_rfl }
def Tryd.laysM146_ren : Go.Shelf.Ren := ⟨fun | 146 => 17 | 221 => 23 | 268 => 26 | 138 => 27 | 143 => 28 | 195 => 30 | 197 => 31 | 218 => 32 | 219 => 33 | 260 => 38 | 217 => 39 | 225 => 37 | 224 => 36 | 267 => 40 | 266 => 41 | 314 => 42 | n => n, fun | 9 => 9 | 31 => 24 | 3 => 3 | 4 => 4 | 0 => 0 | 105 => 35 | 21 => 21 | 5 => 5 | 46 => 39 | 119 => 40 | 139 => 43 | 138 => 42 | 146 => 45 | 51 => 44 | n => n, fun | 1 => 0 | 3 => 1 | 4 => 2 | n => n⟩
theorem Tryd.laysM146 : Go.Proofs.LaysM.n146 Tryd.prog Tryd.laysM146_ren := {
  mixed := by kernel_rfl
  f138 := Tryd.func27.trans (congrArg some (by kernel_rfl))
  f143 := Tryd.func28.trans (congrArg some (by kernel_rfl))
  f146 := Tryd.func17.trans (congrArg some (by kernel_rfl))
  f195 := Tryd.func30.trans (congrArg some (by kernel_rfl))
  f197 := Tryd.func31.trans (congrArg some (by kernel_rfl))
  f217 := Tryd.func39.trans (congrArg some (by kernel_rfl))
  f218 := Tryd.func32.trans (congrArg some (by kernel_rfl))
  f219 := Tryd.func33.trans (congrArg some (by kernel_rfl))
  f221 := Tryd.func23.trans (congrArg some (by kernel_rfl))
  f224 := Tryd.func36.trans (congrArg some (by kernel_rfl))
  f225 := Tryd.func37.trans (congrArg some (by kernel_rfl))
  f260 := Tryd.func38.trans (congrArg some (by kernel_rfl))
  f266 := Tryd.func41.trans (congrArg some (by kernel_rfl))
  f267 := Tryd.func40.trans (congrArg some (by kernel_rfl))
  f268 := Tryd.func26.trans (congrArg some (by kernel_rfl))
  f314 := Tryd.func42.trans (congrArg some (by kernel_rfl))
  t0 := Tryd.underlying0
  a0 := Tryd.isAgg0
  z0 := Tryd.sizeOf0
  v0 := Tryd.zeroValue0
  t3 := Tryd.underlying3
  a3 := Tryd.isAgg3
  z3 := Tryd.sizeOf3
  v3 := Tryd.zeroValue3
  t4 := Tryd.underlying4
  a4 := Tryd.isAgg4
  z4 := Tryd.sizeOf4
  v4 := Tryd.zeroValue4
  t5 := Tryd.underlying5
  a5 := Tryd.isAgg5
  z5 := Tryd.sizeOf5
  v5 := Tryd.zeroValue5
  t9 := Tryd.underlying9
  a9 := Tryd.isAgg9
  z9 := Tryd.sizeOf9
  v9 := Tryd.zeroValue9
  t21 := Tryd.underlying21
  a21 := Tryd.isAgg21
  z21 := Tryd.sizeOf21
  v21 := Tryd.zeroValue21
  t31 := Tryd.underlying24
  a31 := Tryd.isAgg24
  z31 := Tryd.sizeOf24
  v31 := Tryd.zeroValue24
  t46 := Tryd.underlying39
  a46 := Tryd.isAgg39
  z46 := Tryd.sizeOf39
  v46 := Tryd.zeroValue39
  t51 := Tryd.underlying44
  a51 := Tryd.isAgg44
  z51 := Tryd.sizeOf44
  v51 := Tryd.zeroValue44
  t105 := Tryd.underlying35
  a105 := Tryd.isAgg35
  z105 := Tryd.sizeOf35
  v105 := Tryd.zeroValue35
  t119 := Tryd.underlying40
  a119 := Tryd.isAgg40
  z119 := Tryd.sizeOf40
  t138 := Tryd.underlying42
  a138 := Tryd.isAgg42
  z138 := Tryd.sizeOf42
  v138 := Tryd.zeroValue42
  t139 := Tryd.underlying43
  a139 := Tryd.isAgg43
  z139 := Tryd.sizeOf43
  v139 := Tryd.zeroValue43
  t146 := Tryd.underlying45
  a146 := Tryd.isAgg45
  z146 := Tryd.sizeOf45
  v146 := Tryd.zeroValue45
  g1 := by kernel_rfl
  g3 := by kernel_rfl
  g4 := by kernel_rfl
  i0 := by kernel_rfl
  i3 := by kernel_rfl
  i4 := by kernel_rfl
  i5 := by kernel_rfl
  i9 := by kernel_rfl
  i21 := by kernel_rfl
  i31 := by kernel_rfl
  i46 := by kernel_rfl
  i51 := by kernel_rfl
  i105 := by kernel_rfl
  i138 := by kernel_rfl
  i139 := by kernel_rfl
  i146 := by kernel_rfl
  m1 := by kernel_rfl
  s1_3 := fun w h => Go.Proofs.cell_of_shapedOpen_int (zero := #[.int .i64 0]) (t := 3) h (of_decide_eq_true (by kernel_rfl)) (by kernel_rfl) rfl (by kernel_rfl) (by kernel_rfl) Tryd.underlying3
  m3 := by kernel_rfl
  m4 := by kernel_rfl }
open Go.RowKit Go.Lib in
/-- strings.Split, sep not empty. (LAID: no walk: one application.) -/
theorem Tryd.strings_Split_shaped (s sep : ByteArray) (w : World) (h : w.ShapedOpen Tryd.prog) (hs : s.size < 4294967281) (h1 : 1 ≤ sep.size) :
    Calls Tryd.prog 17 #[.string s, .string sep] w fun e w' =>
      e = .returned (.slice (some ⟨w.heap.size, 0, none⟩) (Lib.countB s sep + 1) (Lib.countB s sep + 1)) ∧ w' = w.alloc (.cells ((Lib.splitB sep 0 (Lib.countB s sep) s).map Value.string).toArray 9) := Any.strings_Split_shaped Tryd.laysM146 s sep w h hs h1
open Go.RowKit Go.Lib in
theorem Tryd.strings_IndexFunc_grows (g : Nat) (lb : Array Value) (eg : ∀ args w, (callFunc g args).run Tryd.prog w = .ok (.enter g args) w) (p : Nat → Bool) (s : ByteArray) (w : World) (hp : PredGrows Tryd.prog g lb p w) :
    Calls Tryd.prog 18 #[.string s, .func (.func g) #[] lb] w fun e w' => e = .returned (.int .i64 (Lib.idxFunc p true s)) ∧ Below w.heap.size w w' := Any.strings_IndexFunc_grows Tryd.laysGw15 g lb eg p s w hp
end Go.Proofs
