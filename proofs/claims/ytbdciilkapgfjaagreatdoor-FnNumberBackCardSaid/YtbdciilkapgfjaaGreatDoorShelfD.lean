/-
  DERIVED: THE SHELF's CONTRACTS AT THIS DUMP, IN PLAIN WORDS (tools/lay-plain.mjs out of 'ZBlt.lean', which tools/lay-shelf.mjs wrote): THE SAME DECLARATIONS UNDER THE SAME NAMES: 'import', 'namespace', 'open', 'def', 'theorem' AND NOTHING ELSE: no command of the shelf's: FOR A HAND-IN. Each laying: the table of numbers ('.._ren') and one theorem, a field a fact of the dump's own or the kernel's comparison; each contract: ONE APPLICATION.
-/
import Derived.Ground.NamesProg
import Derived.Shelf.Strings.Builder1
import Derived.Test.YtbdciilkapgfjaaGreatDoorProg
namespace Go.Proofs
open Go.Shelf
def Tryz.stringB_ren : Go.Shelf.Ren := ⟨fun | 169 => 53 | n => n, fun | 70 => 104 | 9 => 9 | 0 => 0 | 72 => 107 | 37 => 105 | 127 => 135 | 3 => 3 | 5 => 5 | n => n, fun | n => n⟩
theorem Tryz.stringB : Go.Proofs.Lays.n169 Tryz.prog Tryz.stringB_ren := {
  mixed := by kernel_rfl
  f169 := Tryz.func53.trans (congrArg some (by kernel_rfl))
  t0 := Tryz.underlying0
  a0 := Tryz.isAgg0
  z0 := Tryz.sizeOf0
  v0 := Tryz.zeroValue0
  t3 := Tryz.underlying3
  a3 := Tryz.isAgg3
  z3 := Tryz.sizeOf3
  v3 := Tryz.zeroValue3
  t9 := Tryz.underlying9
  a9 := Tryz.isAgg9
  z9 := Tryz.sizeOf9
  v9 := Tryz.zeroValue9
  t37 := Tryz.underlying105
  a37 := Tryz.isAgg105
  z37 := Tryz.sizeOf105
  v37 := Tryz.zeroValue105
  t70 := Tryz.underlying104
  a70 := Tryz.isAgg104
  z70 := Tryz.sizeOf104
  v70 := Tryz.zeroValue104
  t72 := Tryz.underlying107
  a72 := Tryz.isAgg107
  z72 := Tryz.sizeOf107
  v72 := Tryz.zeroValue107
  t127 := Tryz.underlying135
  a127 := Tryz.isAgg135
  z127 := Tryz.sizeOf135
  v127 := Tryz.zeroValue135 }
end Go.Proofs
