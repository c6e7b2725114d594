/- A part of the proof. -/
import Derived.Test.YtbdciilkapgfjaaGreatDoorZBackProofs
namespace Go.Proofs.YtbdciilkapgfjaaGreatDoor
open Go.RowKit

theorem fnNumberBack_f1 : (Rows.fnNumberBackRow.inPlace == Tryz.prog.inPlace 3) = true := by kernel_rfl
theorem fnNumberBack_f2 : (Rows.fnNumberBackRow.unfollowed == Tryz.prog.unfollowed 3) = true := by kernel_rfl
theorem fnNumberBack_f3 : (Rows.fnNumberBackRow.recurses == Tryz.prog.recurses 3) = true := by kernel_rfl
theorem fnNumberBack_f4 : (Rows.fnNumberBackRow.named == Tryz.prog.varsNamed 3) = true := by kernel_rfl
theorem fnNumberBack_f5 : laidOutB Tryz.prog = true := by kernel_rfl
theorem fnNumberBack_f6 : mapsRowed Tryz.prog = true := by kernel_rfl
theorem fnNumberBack_closed : joinedFacts Tryz.prog 3 Tryz.f3 Rows.fnNumberBackSpec Rows.fnNumberBackRow = true := by
  unfold joinedFacts
  rw [fnNumberBack_f1, fnNumberBack_f2, fnNumberBack_f3, fnNumberBack_f4, fnNumberBack_f5, fnNumberBack_f6]
  kernel_rfl
theorem fnNumberBack_named : Tryz.prog.funcNamed Rows.fnNumberBackRow.func = some 3 := by kernel_rfl
theorem fnNumberBack_wrap : Tryz.f3.isWrapper Tryz.prog Rows.fnNumberBackRow.wrapper Rows.fnNumberBackRow.mainSum := by
  unfold Func.isWrapper; first | (rw [if_pos (by decide +kernel)]; kernel_rfl) | (rw [if_neg (by decide +kernel)]; exact ⟨rfl, rfl⟩)

theorem fnNumberBack_said : Rows.FnNumberBackSaid :=
  OpenClaim.holds_of_wide 3 Tryz.f3 rfl rfl rfl rfl rfl rfl rfl ⟨rfl, rfl, rfl, rfl, rfl⟩ rfl rfl rfl rfl rfl fnNumberBack_named Tryz.func3 fnNumberBack_closed
    (of_decide_eq_true (by kernel_rfl)) fnNumberBack_wrap
    (fun os started H enc _ => fnNumberBack_lifted os started H enc)
end Go.Proofs.YtbdciilkapgfjaaGreatDoor
