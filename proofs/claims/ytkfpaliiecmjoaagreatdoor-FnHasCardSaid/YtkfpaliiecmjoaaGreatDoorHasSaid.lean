/- Rows.FnHasSaid: laws.FnHas returns true at every input and leaves it as it was. Its one condition: the listed variables read as the row lists them. -/
import Derived.Test.YtkfpaliiecmjoaaGreatDoorHasProofs
namespace Go.Proofs.YtkfpaliiecmjoaaGreatDoor
open Go.RowKit

theorem fnHas_said : Rows.FnHasSaid :=
  OpenClaim.holds_of_wide 3 Tryz.f3 rfl rfl rfl rfl rfl rfl rfl ⟨rfl, rfl, rfl, rfl, rfl⟩ rfl rfl rfl rfl rfl (by kernel_rfl) Tryz.func3 (by kernel_rfl)
    (of_decide_eq_true (by kernel_rfl)) (by unfold Func.isWrapper; first | (rw [if_pos (by decide +kernel)]; kernel_rfl) | (rw [if_neg (by decide +kernel)]; exact ⟨rfl, rfl⟩))
    (fun os started H enc _ => fnHas_lifted os started H enc)
end Go.Proofs.YtkfpaliiecmjoaaGreatDoor
