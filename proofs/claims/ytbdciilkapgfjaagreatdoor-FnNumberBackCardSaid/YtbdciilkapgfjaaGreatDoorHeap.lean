/- Plain facts on blocks: stores, new blocks, frames. -/
import Derived.Test.YtbdciilkapgfjaaGreatDoorProg
import Derived.Test.YtbdciilkapgfjaaGreatDoorRep
import Derived.Test.YtbdciilkapgfjaaGreatDoorTail
import Derived.WalkKit
import Derived.WalkSpells
import Derived.WalkLawsBesides
import Derived.BigGuardPart
import Derived.BigQuiet
import Derived.LoopTactic
import Derived.Deep.DeepCutAuto
import Derived.Deep.CutBlock
import Derived.Lib.Hide
import Derived.Maps.AppendAt
import Derived.Maps.RangeWalk
namespace Go.Proofs.YtbdciilkapgfjaaGreatDoor
open Go.RowKit

theorem heap_setCell_same (w : World) (a : Addr) (v : Value) {c : Array Value} {t : TypeId} {f : Nat × Nat} (h : w.heap[a.block]? = some (.cells c t f)) (hs : a.spot = none) :
    (w.setCell a v).heap[a.block]? = some (.cells (c.setIfInBounds a.off v) t f) := by
  simp only [World.setCell, Array.getElem?_modify, if_true, h, hs]; rfl
theorem grown_setCell (w : World) (b o : Nat) (v : Value) : w.grownBy (w.setCell ⟨b, o, none⟩ v) (some b) := by
  refine ⟨rfl, rfl, rfl, by simp [World.setCell], fun i hi hne => ?_⟩
  exact Below.heap_setCell _ _ _ _ (by intro e; exact hne (by rw [e]))
theorem heap_alloc_at (w : World) (o : Obj) : (w.alloc o).heap[w.heap.size]? = some o := by
  show (w.heap.push o)[w.heap.size]? = _
  simp
theorem grown_refl (w : World) (r : Option Nat) : w.grownBy w r := ⟨rfl, rfl, rfl, Nat.le_refl _, fun _ _ _ => rfl⟩
theorem grown_of_below {w w' : World} (h : Below w.heap.size w w') (r : Option Nat) : w.grownBy w' r := ⟨h.os, h.tape, h.output, h.size, fun k hk _ => h.block k hk⟩
theorem below_of_grown {w w' : World} {b B : Nat} (h : w.grownBy w' (some b)) (hB : B ≤ b) (hs : B ≤ w.heap.size) : Below B w w' :=
  ⟨h.os, h.tape, h.output, h.size, fun k hk => h.block k (by omega) (by intro e; cases e; omega)⟩
theorem below_none {w w' : World} {B : Nat} (h : w.grownBy w' none) (hs : B ≤ w.heap.size) : Below B w w' :=
  ⟨h.os, h.tape, h.output, h.size, fun k hk => h.block k (by omega) (by intro e; cases e)⟩
end Go.Proofs.YtbdciilkapgfjaaGreatDoor
