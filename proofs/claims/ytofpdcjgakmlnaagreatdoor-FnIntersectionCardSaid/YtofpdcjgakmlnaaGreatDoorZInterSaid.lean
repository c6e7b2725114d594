/- A part of the proof. -/
import Derived.Test.YtofpdcjgakmlnaaGreatDoorZInterProofs
namespace Go.Proofs.YtofpdcjgakmlnaaGreatDoor
open Go.RowKit

theorem fnIntersection_f1 : (Rows.fnIntersectionRow.inPlace == Tryz.prog.inPlace 3) = true := by kernel_rfl
theorem fnIntersection_f2 : (Rows.fnIntersectionRow.unfollowed == Tryz.prog.unfollowed 3) = true := by kernel_rfl
theorem fnIntersection_f3 : (Rows.fnIntersectionRow.recurses == Tryz.prog.recurses 3) = true := by kernel_rfl
theorem fnIntersection_f4 : (Rows.fnIntersectionRow.named == Tryz.prog.varsNamed 3) = true := by kernel_rfl
theorem fnIntersection_f5 : laidOutB Tryz.prog = true := by kernel_rfl
theorem fnIntersection_f6 : mapsRowed Tryz.prog = true := by kernel_rfl
theorem fnIntersection_closed : joinedFacts Tryz.prog 3 Tryz.f3 Rows.fnIntersectionSpec Rows.fnIntersectionRow = true := by
  unfold joinedFacts
  rw [fnIntersection_f1, fnIntersection_f2, fnIntersection_f3, fnIntersection_f4, fnIntersection_f5, fnIntersection_f6]
  kernel_rfl
theorem fnIntersection_named : Tryz.prog.funcNamed Rows.fnIntersectionRow.func = some 3 := by kernel_rfl
theorem fnIntersection_wrap : Tryz.f3.isWrapper Tryz.prog Rows.fnIntersectionRow.wrapper Rows.fnIntersectionRow.mainSum := by
  unfold Func.isWrapper; first | (rw [if_pos (by decide +kernel)]; kernel_rfl) | (rw [if_neg (by decide +kernel)]; exact ⟨rfl, rfl⟩)

theorem fnIntersection_said : Rows.FnIntersectionSaid :=
  OpenClaim.holds_of_wide 3 Tryz.f3 rfl rfl rfl rfl rfl rfl rfl ⟨rfl, rfl, rfl, rfl, rfl⟩ rfl rfl rfl rfl rfl fnIntersection_named Tryz.func3 fnIntersection_closed
    (of_decide_eq_true (by kernel_rfl)) fnIntersection_wrap
    (fun os started H enc _ => fnIntersection_lifted os started H enc)
end Go.Proofs.YtofpdcjgakmlnaaGreatDoor
