/-
  DERIVED: THE SHELF's CONTRACTS AT THIS DUMP, IN PLAIN WORDS (tools/lay-plain.mjs out of 'ZMul.lean', which tools/lay-shelf.mjs wrote): THE SAME DECLARATIONS UNDER THE SAME NAMES: 'import', 'namespace', 'open', 'def', 'theorem' AND NOTHING ELSE: no command of the shelf's: FOR A HAND-IN. Each laying: the table of numbers ('.._ren') and one theorem, a field a fact of the dump's own or the kernel's comparison; each contract: ONE APPLICATION.
-/
import Derived.Ground.NamesProg
import Derived.Shelf.Bits.Mul64
import Derived.Shelf.Strconv.Itoa0
import Derived.Test.YtbdciilkapgfjaaGreatDoorProg
namespace Go.Proofs
open Go.Shelf
def Tryz.mul64M_ren : Go.Shelf.Ren := ⟨fun | 264 => 194 | n => n, fun | 53 => 115 | 46 => 117 | n => n, fun | n => n⟩
theorem Tryz.mul64M : Go.Proofs.Lays.n264 Tryz.prog Tryz.mul64M_ren := {
  mixed := by kernel_rfl
  f264 := Tryz.func194.trans (congrArg some (by kernel_rfl))
  t46 := Tryz.underlying117
  a46 := Tryz.isAgg117
  z46 := Tryz.sizeOf117
  v46 := Tryz.zeroValue117
  t53 := Tryz.underlying115
  a53 := Tryz.isAgg115
  z53 := Tryz.sizeOf115
  v53 := Tryz.zeroValue115 }
def Tryz.len64M_ren : Go.Shelf.Ren := ⟨fun | 129 => 82 | n => n, fun | 53 => 115 | 3 => 3 | 4 => 4 | 46 => 117 | 5 => 5 | 9 => 9 | n => n, fun | n => n⟩
theorem Tryz.len64M : Go.Proofs.Lays.n129 Tryz.prog Tryz.len64M_ren := {
  mixed := by kernel_rfl
  f129 := Tryz.func82.trans (congrArg some (by kernel_rfl))
  t3 := Tryz.underlying3
  a3 := Tryz.isAgg3
  z3 := Tryz.sizeOf3
  v3 := Tryz.zeroValue3
  t4 := Tryz.underlying4
  a4 := Tryz.isAgg4
  z4 := Tryz.sizeOf4
  v4 := Tryz.zeroValue4
  t5 := Tryz.underlying5
  a5 := Tryz.isAgg5
  z5 := Tryz.sizeOf5
  v5 := Tryz.zeroValue5
  t9 := Tryz.underlying9
  a9 := Tryz.isAgg9
  z9 := Tryz.sizeOf9
  v9 := Tryz.zeroValue9
  t46 := Tryz.underlying117
  a46 := Tryz.isAgg117
  z46 := Tryz.sizeOf117
  v46 := Tryz.zeroValue117
  t53 := Tryz.underlying115
  a53 := Tryz.isAgg115
  z53 := Tryz.sizeOf115
  v53 := Tryz.zeroValue115 }
end Go.Proofs
