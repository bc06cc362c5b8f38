/-
  DERIVED: THE SHELF's CONTRACTS AT THIS DUMP, IN PLAIN WORDS (tools/lay-plain.mjs out of 'Qxb6608627aDoorShelfSrc.lean', which tools/lay-shelf.mjs wrote): THE SAME DECLARATIONS UNDER THE SAME NAMES: 'import', 'namespace', 'open', 'def', 'theorem' AND NOTHING ELSE: no command of the shelf's: FOR A HAND-IN. Each laying: the table of numbers ('.._ren') and one theorem, a field a fact of the dump's own or the kernel's comparison; each contract: ONE APPLICATION.
-/
import Derived.Ground.NamesProg
import Derived.Shelf.LaysM
import Derived.Shelf.Bits.Mul64
import Derived.Shelf.Strconv.Itoa0
import Derived.Test.Qxb6608627aDoorProg
namespace Go.Proofs
open Go.Shelf
def Tryd.lays264_ren : Go.Shelf.Ren := ⟨fun | 264 => 54 | n => n, fun | 53 => 28 | 46 => 58 | n => n, fun | n => n⟩
theorem Tryd.lays264 : Go.Proofs.Lays.n264 Tryd.prog Tryd.lays264_ren := {
  mixed := by kernel_rfl
  f264 := Tryd.func54.trans (congrArg some (by kernel_rfl))
  t46 := Tryd.underlying58
  a46 := Tryd.isAgg58
  z46 := Tryd.sizeOf58
  v46 := Tryd.zeroValue58
  t53 := Tryd.underlying28
  a53 := Tryd.isAgg28
  z53 := Tryd.sizeOf28
  v53 := Tryd.zeroValue28 }
def Tryd.lays129_ren : Go.Shelf.Ren := ⟨fun | 129 => 42 | n => n, fun | 53 => 28 | 3 => 3 | 4 => 4 | 46 => 58 | 5 => 5 | 9 => 9 | n => n, fun | n => n⟩
theorem Tryd.lays129 : Go.Proofs.Lays.n129 Tryd.prog Tryd.lays129_ren := {
  mixed := by kernel_rfl
  f129 := Tryd.func42.trans (congrArg some (by kernel_rfl))
  t3 := Tryd.underlying3
  a3 := Tryd.isAgg3
  z3 := Tryd.sizeOf3
  v3 := Tryd.zeroValue3
  t4 := Tryd.underlying4
  a4 := Tryd.isAgg4
  z4 := Tryd.sizeOf4
  v4 := Tryd.zeroValue4
  t5 := Tryd.underlying5
  a5 := Tryd.isAgg5
  z5 := Tryd.sizeOf5
  v5 := Tryd.zeroValue5
  t9 := Tryd.underlying9
  a9 := Tryd.isAgg9
  z9 := Tryd.sizeOf9
  v9 := Tryd.zeroValue9
  t46 := Tryd.underlying58
  a46 := Tryd.isAgg58
  z46 := Tryd.sizeOf58
  v46 := Tryd.zeroValue58
  t53 := Tryd.underlying28
  a53 := Tryd.isAgg28
  z53 := Tryd.sizeOf28
  v53 := Tryd.zeroValue28 }
end Go.Proofs
