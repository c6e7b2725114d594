/- The row of laws.FnDelOne holds. -/
import Derived.Test.YtnaijgdffbfapaaGreatDoorZDelProofs
namespace Go.Proofs.YtnaijgdffbfapaaGreatDoor
open Go.RowKit

theorem fnDelOne_f1 : (Rows.fnDelOneRow.inPlace == Tryz.prog.inPlace 3) = true := by kernel_rfl
theorem fnDelOne_f2 : (Rows.fnDelOneRow.unfollowed == Tryz.prog.unfollowed 3) = true := by kernel_rfl
theorem fnDelOne_f3 : (Rows.fnDelOneRow.recurses == Tryz.prog.recurses 3) = true := by kernel_rfl
theorem fnDelOne_f4 : (Rows.fnDelOneRow.named == Tryz.prog.varsNamed 3) = true := by kernel_rfl
theorem fnDelOne_f5 : laidOutB Tryz.prog = true := by kernel_rfl
theorem fnDelOne_f6 : mapsRowed Tryz.prog = true := by kernel_rfl
theorem fnDelOne_closed : joinedFacts Tryz.prog 3 Tryz.f3 Rows.fnDelOneSpec Rows.fnDelOneRow = true := by
  unfold joinedFacts
  rw [fnDelOne_f1, fnDelOne_f2, fnDelOne_f3, fnDelOne_f4, fnDelOne_f5, fnDelOne_f6]
  kernel_rfl
theorem fnDelOne_named : Tryz.prog.funcNamed Rows.fnDelOneRow.func = some 3 := by kernel_rfl
theorem fnDelOne_wrap : Tryz.f3.isWrapper Tryz.prog Rows.fnDelOneRow.wrapper Rows.fnDelOneRow.mainSum := by
  unfold Func.isWrapper; first | (rw [if_pos (by decide +kernel)]; kernel_rfl) | (rw [if_neg (by decide +kernel)]; exact ⟨rfl, rfl⟩)

theorem fnDelOne_said : Rows.FnDelOneSaid :=
  OpenClaim.holds_of_wide 3 Tryz.f3 rfl rfl rfl rfl rfl rfl rfl ⟨rfl, rfl, rfl, rfl, rfl⟩ rfl rfl rfl rfl rfl fnDelOne_named Tryz.func3 fnDelOne_closed
    (of_decide_eq_true (by kernel_rfl)) fnDelOne_wrap
    (fun os started H enc _ => fnDelOne_lifted os started H enc)
end Go.Proofs.YtnaijgdffbfapaaGreatDoor
