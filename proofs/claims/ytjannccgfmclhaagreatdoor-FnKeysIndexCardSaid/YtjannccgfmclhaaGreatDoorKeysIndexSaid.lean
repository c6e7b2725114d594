/- A part of the proof. -/
import Derived.Test.YtjannccgfmclhaaGreatDoorKeysIndexProofs
namespace Go.Proofs.YtjannccgfmclhaaGreatDoor
open Go.RowKit

theorem fnKeysIndex_said : Rows.FnKeysIndexSaid :=
  OpenClaim.holds_of_wide 3 Tryz.f3 rfl rfl rfl rfl rfl rfl rfl ⟨rfl, rfl, rfl, rfl, rfl⟩ rfl rfl rfl rfl rfl (by kernel_rfl) Tryz.func3 (by kernel_rfl)
    (of_decide_eq_true (by kernel_rfl)) (by unfold Func.isWrapper; first | (rw [if_pos (by decide +kernel)]; kernel_rfl) | (rw [if_neg (by decide +kernel)]; exact ⟨rfl, rfl⟩))
    (fun os started H enc _ => fnKeysIndex_lifted os started H enc)
end Go.Proofs.YtjannccgfmclhaaGreatDoor
