/- A part of the proof. -/
import Derived.Test.YtinmcopamjjlbaaGreatDoorFlattenProofs
namespace Go.Proofs.YtinmcopamjjlbaaGreatDoor
open Go.RowKit

theorem fnFlatten_said : Rows.FnFlattenSaid :=
  OpenClaim.holds_of_wide 3 Tryz.f3 rfl rfl rfl rfl rfl rfl rfl ⟨rfl, rfl, rfl, rfl, rfl⟩ rfl rfl rfl rfl rfl (by kernel_rfl) Tryz.func3 (by kernel_rfl)
    (of_decide_eq_true (by kernel_rfl)) (by unfold Func.isWrapper; first | (rw [if_pos (by decide +kernel)]; kernel_rfl) | (rw [if_neg (by decide +kernel)]; exact ⟨rfl, rfl⟩))
    (fun os started H enc _ => fnFlatten_lifted os started H enc)
end Go.Proofs.YtinmcopamjjlbaaGreatDoor
