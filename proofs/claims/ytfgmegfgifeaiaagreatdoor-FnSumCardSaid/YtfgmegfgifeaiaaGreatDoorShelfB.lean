/-
  DERIVED: THE SHELF's CONTRACTS AT THIS DUMP, IN PLAIN WORDS (tools/lay-plain.mjs out of 'ZBld.lean', which tools/lay-shelf.mjs wrote): THE SAME DECLARATIONS UNDER THE SAME NAMES: 'import', 'namespace', 'open', 'def', 'theorem' AND NOTHING ELSE: no command of the shelf's: FOR A HAND-IN. Each laying: the table of numbers ('.._ren') and one theorem, a field a fact of the dump's own or the kernel's comparison; each contract: ONE APPLICATION.
-/
import Derived.Ground.NamesProg
import Derived.Ground.SlmcProg
import Derived.Ground.SlmpProg
import Derived.Shelf.Strings.Builder1
import Derived.Shelf.SlMaps.Clone
import Derived.Shelf.SlMaps.Copy
import Derived.Test.YtfgmegfgifeaiaaGreatDoorProg
namespace Go.Proofs
open Go.Shelf
def Tryz.stringB_ren : Go.Shelf.Ren := ⟨fun | 169 => 107 | n => n, fun | 70 => 133 | 9 => 9 | 0 => 0 | 72 => 135 | 37 => 108 | 127 => 156 | 3 => 3 | 5 => 5 | n => n, fun | n => n⟩
theorem Tryz.stringB : Go.Proofs.Lays.n169 Tryz.prog Tryz.stringB_ren := {
  mixed := by kernel_rfl
  f169 := Tryz.func107.trans (congrArg some (by kernel_rfl))
  t0 := Tryz.underlying0
  a0 := Tryz.isAgg0
  z0 := Tryz.sizeOf0
  v0 := Tryz.zeroValue0
  t3 := Tryz.underlying3
  a3 := Tryz.isAgg3
  z3 := Tryz.sizeOf3
  v3 := Tryz.zeroValue3
  t9 := Tryz.underlying9
  a9 := Tryz.isAgg9
  z9 := Tryz.sizeOf9
  v9 := Tryz.zeroValue9
  t37 := Tryz.underlying108
  a37 := Tryz.isAgg108
  z37 := Tryz.sizeOf108
  v37 := Tryz.zeroValue108
  t70 := Tryz.underlying133
  a70 := Tryz.isAgg133
  z70 := Tryz.sizeOf133
  v70 := Tryz.zeroValue133
  t72 := Tryz.underlying135
  a72 := Tryz.isAgg135
  z72 := Tryz.sizeOf135
  v72 := Tryz.zeroValue135
  t127 := Tryz.underlying156
  a127 := Tryz.isAgg156
  z127 := Tryz.sizeOf156
  v127 := Tryz.zeroValue156 }
def Tryz.cloneW_ren : Go.Shelf.Ren := ⟨fun | 5 => 105 | 7 => 130 | n => n, fun | 23 => 61 | 25 => 9 | 3 => 20 | 4 => 4 | 20 => 20 | n => n, fun | n => n⟩
theorem Tryz.cloneW : Go.Proofs.SlLaysW.n5 Tryz.prog Tryz.cloneW_ren := {
  mixed := by kernel_rfl
  f5 := ⟨Tryz.f105.name, by decide, Tryz.func105.trans (congrArg some (by kernel_rfl))⟩
  f7 := Tryz.func130.trans (congrArg some (by kernel_rfl))
  t4 := Tryz.underlying4
  a4 := Tryz.isAgg4
  z4 := Tryz.sizeOf4
  v4 := Tryz.zeroValue4
  t20 := Tryz.underlying20
  a20 := Tryz.isAgg20
  z20 := Tryz.sizeOf20
  v20 := Tryz.zeroValue20
  t23 := Tryz.underlying61
  a23 := Tryz.isAgg61
  z23 := Tryz.sizeOf61
  v23 := Tryz.zeroValue61 }
def Tryz.copyX_ren : Go.Shelf.Ren := ⟨fun | 5 => 106 | n => n, fun | 23 => 61 | 24 => 61 | 26 => 9 | 27 => 20 | 0 => 0 | 4 => 4 | n => n, fun | n => n⟩
theorem Tryz.copyX : Go.Proofs.SlLaysX.n5 Tryz.prog Tryz.copyX_ren := {
  mixed := by kernel_rfl
  f5 := ⟨Tryz.f106.name, by decide, Tryz.func106.trans (congrArg some (by kernel_rfl))⟩
  t0 := Tryz.underlying0
  a0 := Tryz.isAgg0
  z0 := Tryz.sizeOf0
  v0 := Tryz.zeroValue0
  t4 := Tryz.underlying4
  a4 := Tryz.isAgg4
  z4 := Tryz.sizeOf4
  v4 := Tryz.zeroValue4
  t23 := Tryz.underlying61
  a23 := Tryz.isAgg61
  z23 := Tryz.sizeOf61
  v23 := Tryz.zeroValue61
  t24 := Tryz.underlying61
  a24 := Tryz.isAgg61
  z24 := Tryz.sizeOf61
  v24 := Tryz.zeroValue61
  a26 := Tryz.isAgg9
  z26 := Tryz.sizeOf9
  a27 := Tryz.isAgg20
  z27 := Tryz.sizeOf20 }
end Go.Proofs
