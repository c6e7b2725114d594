/- utf8.ValidString by the shelf's contract, under its two tables as they are laid at the start. -/
import Derived.Test.YtnaijgdffbfapaaGreatDoorShelfU
import Derived.WalkKit
import Derived.Below
import Derived.Lib.ValidU
import Derived.Lib.LaidU8
import Derived.Shelf.Unicode.ValidAny
namespace Go.Proofs.YtnaijgdffbfapaaGreatDoor
open Go.RowKit

/-- The two tables of unicode/utf8 lie in the memory as they are laid at the start. -/
def Tabs (w : World) : Prop := Lib.Utf8Tabs (Tryz.laysValid_ren.g 3) (Tryz.laysValid_ren.g 4) w
/-- The blocks of the two tables lie below this one. -/
def LB : Nat := max (Tryz.laysValid_ren.g 3) (Tryz.laysValid_ren.g 4) + 1
theorem Tabs.below {w w' : World} {B : Nat} (h : Tabs w) (hb : Below B w w') (hB : LB ≤ B) : Tabs w' :=
  ⟨fun c hc => (hb.cell (p := ⟨Tryz.laysValid_ren.g 3, c, none⟩) (Nat.lt_of_lt_of_le (Nat.lt_succ_of_le (Nat.le_max_left _ _) : Tryz.laysValid_ren.g 3 < LB) hB)).trans (h.1 c hc),
   fun i hi => ⟨(hb.cell (p := ⟨Tryz.laysValid_ren.g 4, 2 * i, none⟩) (Nat.lt_of_lt_of_le (Nat.lt_succ_of_le (Nat.le_max_right _ _) : Tryz.laysValid_ren.g 4 < LB) hB)).trans (h.2 i hi).1,
                (hb.cell (p := ⟨Tryz.laysValid_ren.g 4, 2 * i + 1, none⟩) (Nat.lt_of_lt_of_le (Nat.lt_succ_of_le (Nat.le_max_right _ _) : Tryz.laysValid_ren.g 4 < LB) hB)).trans (h.2 i hi).2⟩⟩
theorem valid_any (s : ByteArray) (w : World) (hs : s.size ≤ 140737488351232) (hT : Tabs w) :
    Calls Tryz.prog 45 #[.string s] w fun e w' => e = .returned (.bool (Lib.validD s.data.toList)) ∧ Below w.heap.size w w' :=
  Any.utf8_ValidString Tryz.laysValid s w (by omega) hT
end Go.Proofs.YtnaijgdffbfapaaGreatDoor
