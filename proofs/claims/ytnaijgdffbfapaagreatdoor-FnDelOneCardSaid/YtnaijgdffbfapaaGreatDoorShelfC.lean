/-
  DERIVED: THE SHELF's CONTRACTS AT THIS DUMP, IN PLAIN WORDS (tools/lay-plain.mjs out of 'ZCpy.lean', which tools/lay-shelf.mjs wrote): THE SAME DECLARATIONS UNDER THE SAME NAMES: 'import', 'namespace', 'open', 'def', 'theorem' AND NOTHING ELSE: no command of the shelf's: FOR A HAND-IN. Each laying: the table of numbers ('.._ren') and one theorem, a field a fact of the dump's own or the kernel's comparison; each contract: ONE APPLICATION.
-/
import Derived.Ground.SlmpProg
import Derived.Shelf.SlMaps.Copy
import Derived.Test.YtnaijgdffbfapaaGreatDoorProg
namespace Go.Proofs
open Go.Shelf
def Tryz.copyX_ren : Go.Shelf.Ren := ⟨fun | 5 => 85 | n => n, fun | 23 => 61 | 24 => 61 | 26 => 9 | 27 => 20 | 0 => 0 | 4 => 4 | n => n, fun | n => n⟩
theorem Tryz.copyX : Go.Proofs.SlLaysX.n5 Tryz.prog Tryz.copyX_ren := {
  mixed := by kernel_rfl
  f5 := ⟨Tryz.f85.name, by decide, Tryz.func85.trans (congrArg some (by kernel_rfl))⟩
  t0 := Tryz.underlying0
  a0 := Tryz.isAgg0
  z0 := Tryz.sizeOf0
  v0 := Tryz.zeroValue0
  t4 := Tryz.underlying4
  a4 := Tryz.isAgg4
  z4 := Tryz.sizeOf4
  v4 := Tryz.zeroValue4
  t23 := Tryz.underlying61
  a23 := Tryz.isAgg61
  z23 := Tryz.sizeOf61
  v23 := Tryz.zeroValue61
  t24 := Tryz.underlying61
  a24 := Tryz.isAgg61
  z24 := Tryz.sizeOf61
  v24 := Tryz.zeroValue61
  a26 := Tryz.isAgg9
  z26 := Tryz.sizeOf9
  a27 := Tryz.isAgg20
  z27 := Tryz.sizeOf20 }
end Go.Proofs
