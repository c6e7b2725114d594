/- A part of the proof. -/
import Derived.Test.YtbdciilkapgfjaaGreatDoorRows
import Derived.ProofKit
import Derived.Lay
import Derived.LaidOnce
namespace Go.Proofs.YtbdciilkapgfjaaGreatDoor
open Go.RowKit Go.ChangeShapes Go.WideShapes Go.ChangeAt

/-- Some call meets the row's conditions. -/
theorem fnNumberBack_wit (os : Os) (H : Type) (enc : TypeId × Value → H) :
    ∃ (w : World) (tape : Tape) (i : Input), w.os = os ∧ (w.forCall tape i).Shaped Tryz.checked.prog ∧ i.vars = [] ∧ Input.okWide Tryz.checked.prog (w.forCall tape i) .any w.heap.size 3 i ∧
      ((Rows.fnNumberBackSpec.pre enc Tryz.checked.prog Tryz.f3 [] false (w.forCall tape i).memory i.args ∧ laidMetH Tryz.prog Rows.fnNumberBackRow.laid (w.forCall tape i).memory) ∧ sizedMet enc Tryz.checked.prog Tryz.f3 (OpenSpec.ofChange Rows.fnNumberBackSpec) false (w.forCall tape i).memory i.args) ∧
      ({} : Assume).holds Tryz.checked.prog (lone (Frame.enter Tryz.checked.prog 3 i.args .normal) [] (w.forCall tape i)) :=
  ChangeSpec.witness_shaped (enc := enc) (C := Tryz.checked) (os := os) (X := fun w _ => laidMetH Tryz.prog Rows.fnNumberBackRow.laid w) false (World.laidAll Tryz.prog os Rows.fnNumberBackRow.laid)
    #[.int .i64 0] 8 (World.laidAll_os _ _ _)
    (World.shaped_of_ZipB (by kernel_rfl) (by kernel_rfl)) (by kernel_rfl) (by kernel_rfl) (by kernel_rfl)
    (by rw [MakeChecks.laidMetH_plain _ _ _ (by kernel_rfl)]; exact laidMet_laidAll _ (by kernel_rfl) (by kernel_rfl))
end Go.Proofs.YtbdciilkapgfjaaGreatDoor
