/-
  DERIVED: THE SHELF's CONTRACTS AT THIS DUMP, IN PLAIN WORDS (tools/lay-plain.mjs out of 'Qxb6609149aFmtShelfSrc.lean', which tools/lay-shelf.mjs wrote): THE SAME DECLARATIONS UNDER THE SAME NAMES: 'import', 'namespace', 'open', 'def', 'theorem' AND NOTHING ELSE: no command of the shelf's: FOR A HAND-IN. Each laying: the table of numbers ('.._ren') and one theorem, a field a fact of the dump's own or the kernel's comparison; each contract: ONE APPLICATION.
-/
import Derived.Ground.NamesProg
import Derived.Ground.GgwProg
import Derived.Shelf.LaysM
import Derived.Shelf.Strings.SplitShaped
import Derived.Shelf.Strings.FuncGrows
import Derived.Shelf.Slices.Turned
import Derived.Test.Qxb6609149aFmtProg
namespace Go.Proofs
open Go.Shelf
def Tryf.laysM146_ren : Go.Shelf.Ren := ⟨fun | 146 => 7 | 221 => 12 | 268 => 17 | 138 => 18 | 143 => 19 | 195 => 20 | 197 => 21 | 218 => 22 | 219 => 23 | 260 => 24 | 217 => 25 | 225 => 26 | 224 => 27 | 267 => 28 | 266 => 29 | 314 => 30 | n => n, fun | 9 => 9 | 31 => 23 | 3 => 3 | 4 => 4 | 0 => 0 | 105 => 46 | 21 => 21 | 5 => 5 | 46 => 50 | 119 => 51 | 139 => 54 | 138 => 53 | 146 => 56 | 51 => 55 | n => n, fun | 1 => 0 | 3 => 1 | 4 => 2 | n => n⟩
theorem Tryf.laysM146 : Go.Proofs.LaysM.n146 Tryf.prog Tryf.laysM146_ren := {
  mixed := by kernel_rfl
  f138 := Tryf.func18.trans (congrArg some (by kernel_rfl))
  f143 := Tryf.func19.trans (congrArg some (by kernel_rfl))
  f146 := Tryf.func7.trans (congrArg some (by kernel_rfl))
  f195 := Tryf.func20.trans (congrArg some (by kernel_rfl))
  f197 := Tryf.func21.trans (congrArg some (by kernel_rfl))
  f217 := Tryf.func25.trans (congrArg some (by kernel_rfl))
  f218 := Tryf.func22.trans (congrArg some (by kernel_rfl))
  f219 := Tryf.func23.trans (congrArg some (by kernel_rfl))
  f221 := Tryf.func12.trans (congrArg some (by kernel_rfl))
  f224 := Tryf.func27.trans (congrArg some (by kernel_rfl))
  f225 := Tryf.func26.trans (congrArg some (by kernel_rfl))
  f260 := Tryf.func24.trans (congrArg some (by kernel_rfl))
  f266 := Tryf.func29.trans (congrArg some (by kernel_rfl))
  f267 := Tryf.func28.trans (congrArg some (by kernel_rfl))
  f268 := Tryf.func17.trans (congrArg some (by kernel_rfl))
  f314 := Tryf.func30.trans (congrArg some (by kernel_rfl))
  t0 := Tryf.underlying0
  a0 := Tryf.isAgg0
  z0 := Tryf.sizeOf0
  v0 := Tryf.zeroValue0
  t3 := Tryf.underlying3
  a3 := Tryf.isAgg3
  z3 := Tryf.sizeOf3
  v3 := Tryf.zeroValue3
  t4 := Tryf.underlying4
  a4 := Tryf.isAgg4
  z4 := Tryf.sizeOf4
  v4 := Tryf.zeroValue4
  t5 := Tryf.underlying5
  a5 := Tryf.isAgg5
  z5 := Tryf.sizeOf5
  v5 := Tryf.zeroValue5
  t9 := Tryf.underlying9
  a9 := Tryf.isAgg9
  z9 := Tryf.sizeOf9
  v9 := Tryf.zeroValue9
  t21 := Tryf.underlying21
  a21 := Tryf.isAgg21
  z21 := Tryf.sizeOf21
  v21 := Tryf.zeroValue21
  t31 := Tryf.underlying23
  a31 := Tryf.isAgg23
  z31 := Tryf.sizeOf23
  v31 := Tryf.zeroValue23
  t46 := Tryf.underlying50
  a46 := Tryf.isAgg50
  z46 := Tryf.sizeOf50
  v46 := Tryf.zeroValue50
  t51 := Tryf.underlying55
  a51 := Tryf.isAgg55
  z51 := Tryf.sizeOf55
  v51 := Tryf.zeroValue55
  t105 := Tryf.underlying46
  a105 := Tryf.isAgg46
  z105 := Tryf.sizeOf46
  v105 := Tryf.zeroValue46
  t119 := Tryf.underlying51
  a119 := Tryf.isAgg51
  z119 := Tryf.sizeOf51
  t138 := Tryf.underlying53
  a138 := Tryf.isAgg53
  z138 := Tryf.sizeOf53
  v138 := Tryf.zeroValue53
  t139 := Tryf.underlying54
  a139 := Tryf.isAgg54
  z139 := Tryf.sizeOf54
  v139 := Tryf.zeroValue54
  t146 := Tryf.underlying56
  a146 := Tryf.isAgg56
  z146 := Tryf.sizeOf56
  v146 := Tryf.zeroValue56
  g1 := by kernel_rfl
  g3 := by kernel_rfl
  g4 := by kernel_rfl
  i0 := by kernel_rfl
  i3 := by kernel_rfl
  i4 := by kernel_rfl
  i5 := by kernel_rfl
  i9 := by kernel_rfl
  i21 := by kernel_rfl
  i31 := by kernel_rfl
  i46 := by kernel_rfl
  i51 := by kernel_rfl
  i105 := by kernel_rfl
  i138 := by kernel_rfl
  i139 := by kernel_rfl
  i146 := by kernel_rfl
  m1 := by kernel_rfl
  s1_3 := fun w h => Go.Proofs.cell_of_shapedOpen_int (zero := #[.int .i64 0]) (t := 3) h (of_decide_eq_true (by kernel_rfl)) (by kernel_rfl) rfl (by kernel_rfl) (by kernel_rfl) Tryf.underlying3
  m3 := by kernel_rfl
  m4 := by kernel_rfl }
def Tryf.lays110_ren : Go.Shelf.Ren := ⟨fun | 110 => 11 | 109 => 16 | n => n, fun | 31 => 23 | 9 => 9 | 4 => 4 | 3 => 3 | 0 => 0 | n => n, fun | n => n⟩
theorem Tryf.lays110 : Go.Proofs.Lays.n110 Tryf.prog Tryf.lays110_ren := {
  mixed := by kernel_rfl
  f109 := Tryf.func16.trans (congrArg some (by kernel_rfl))
  f110 := Tryf.func11.trans (congrArg some (by kernel_rfl))
  t0 := Tryf.underlying0
  a0 := Tryf.isAgg0
  z0 := Tryf.sizeOf0
  v0 := Tryf.zeroValue0
  t3 := Tryf.underlying3
  a3 := Tryf.isAgg3
  z3 := Tryf.sizeOf3
  v3 := Tryf.zeroValue3
  t4 := Tryf.underlying4
  a4 := Tryf.isAgg4
  z4 := Tryf.sizeOf4
  v4 := Tryf.zeroValue4
  t9 := Tryf.underlying9
  a9 := Tryf.isAgg9
  z9 := Tryf.sizeOf9
  v9 := Tryf.zeroValue9
  t31 := Tryf.underlying23
  a31 := Tryf.isAgg23
  z31 := Tryf.sizeOf23
  v31 := Tryf.zeroValue23 }
def Tryf.laysG15_ren : Go.Shelf.Ren := ⟨fun | 15 => 9 | 20 => 15 | n => n, fun | 9 => 9 | 23 => 32 | 3 => 3 | 4 => 4 | 0 => 0 | 21 => 21 | n => n, fun | n => n⟩
theorem Tryf.laysG15 : Go.Proofs.LaysGw.n15 Tryf.prog Tryf.laysG15_ren := {
  mixed := by kernel_rfl
  f15 := Tryf.func9.trans (congrArg some (by kernel_rfl))
  f20 := Tryf.func15.trans (congrArg some (by kernel_rfl))
  t0 := Tryf.underlying0
  a0 := Tryf.isAgg0
  z0 := Tryf.sizeOf0
  v0 := Tryf.zeroValue0
  i0 := by kernel_rfl
  t3 := Tryf.underlying3
  a3 := Tryf.isAgg3
  z3 := Tryf.sizeOf3
  v3 := Tryf.zeroValue3
  i3 := by kernel_rfl
  t4 := Tryf.underlying4
  a4 := Tryf.isAgg4
  z4 := Tryf.sizeOf4
  v4 := Tryf.zeroValue4
  i4 := by kernel_rfl
  t9 := Tryf.underlying9
  a9 := Tryf.isAgg9
  z9 := Tryf.sizeOf9
  v9 := Tryf.zeroValue9
  i9 := by kernel_rfl
  t21 := Tryf.underlying21
  a21 := Tryf.isAgg21
  z21 := Tryf.sizeOf21
  v21 := Tryf.zeroValue21
  i21 := by kernel_rfl
  t23 := Tryf.underlying32
  a23 := Tryf.isAgg32
  z23 := Tryf.sizeOf32
  v23 := Tryf.zeroValue32
  i23 := by kernel_rfl }
end Go.Proofs
