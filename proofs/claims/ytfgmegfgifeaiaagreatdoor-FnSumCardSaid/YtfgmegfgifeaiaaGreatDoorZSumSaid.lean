/- A part of the proof. -/
import Derived.Test.YtfgmegfgifeaiaaGreatDoorZSumProofs
namespace Go.Proofs.YtfgmegfgifeaiaaGreatDoor
open Go.RowKit

theorem fnSum_f1 : (Rows.fnSumRow.inPlace == Tryz.prog.inPlace 3) = true := by kernel_rfl
theorem fnSum_f2 : (Rows.fnSumRow.unfollowed == Tryz.prog.unfollowed 3) = true := by kernel_rfl
theorem fnSum_f3 : (Rows.fnSumRow.recurses == Tryz.prog.recurses 3) = true := by kernel_rfl
theorem fnSum_f4 : (Rows.fnSumRow.named == Tryz.prog.varsNamed 3) = true := by kernel_rfl
theorem fnSum_f5 : laidOutB Tryz.prog = true := by kernel_rfl
theorem fnSum_f6 : mapsRowed Tryz.prog = true := by kernel_rfl
theorem fnSum_closed : joinedFacts Tryz.prog 3 Tryz.f3 Rows.fnSumSpec Rows.fnSumRow = true := by
  unfold joinedFacts
  rw [fnSum_f1, fnSum_f2, fnSum_f3, fnSum_f4, fnSum_f5, fnSum_f6]
  kernel_rfl
theorem fnSum_named : Tryz.prog.funcNamed Rows.fnSumRow.func = some 3 := by kernel_rfl
theorem fnSum_wrap : Tryz.f3.isWrapper Tryz.prog Rows.fnSumRow.wrapper Rows.fnSumRow.mainSum := by
  unfold Func.isWrapper; first | (rw [if_pos (by decide +kernel)]; kernel_rfl) | (rw [if_neg (by decide +kernel)]; exact ⟨rfl, rfl⟩)

theorem fnSum_said : Rows.FnSumSaid :=
  OpenClaim.holds_of_wide 3 Tryz.f3 rfl rfl rfl rfl rfl rfl rfl ⟨rfl, rfl, rfl, rfl, rfl⟩ rfl rfl rfl rfl rfl fnSum_named Tryz.func3 fnSum_closed
    (of_decide_eq_true (by kernel_rfl)) fnSum_wrap
    (fun os started H enc _ => fnSum_lifted os started H enc)
end Go.Proofs.YtfgmegfgifeaiaaGreatDoor
