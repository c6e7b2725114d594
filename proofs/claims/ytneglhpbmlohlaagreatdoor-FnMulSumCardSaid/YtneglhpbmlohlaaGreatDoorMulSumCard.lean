/- The tied card of FnMulSum: whatever three Values it is given, FnMulSum returns true and its arguments read as they did; within the form's reach. -/
import Derived.Test.YtneglhpbmlohlaaGreatDoorMulSumSaid
import Derived.Test.YtneglhpbmlohlaaGreatDoorTie
import Derived.Test.YtneglhpbmlohlaaGreatDoorCards
import Derived.SevenTiedAt
namespace Go.Proofs.YtneglhpbmlohlaaGreatDoor
open Go

theorem fnMulSum_card : Rows.FnMulSumCardSaid :=
  Claim7.holds_tied_plain_at .later [] Rows.fnMulSumCard.laidKinds true Rows.fnMulSumCard.stood.harness true
    fnMulSum_said (fun _ h => by cases h) (by kernel_rfl) (fun _ h => by cases h) fnMulSum_row_tie rfl ⟨rfl, rfl⟩ (by kernel_rfl) rfl
    (fun f fn hf hfn => by
      obtain rfl : f = 3 := Option.some.inj ((show Tryz.prog.funcNamed "pub-strainer/laws.FnMulSum" = some 3 by kernel_rfl).symm.trans hf) |>.symm
      obtain rfl : fn = Tryz.f3 := (Option.some.inj (Tryz.func3.symm.trans hfn)).symm
      exact ⟨by kernel_rfl, fun j t ht => by
        rw [Tryz.params3] at ht
        have hm : t ∈ [26, 26, 26] := by simpa using Array.mem_of_getElem? ht
        have hall : ([26, 26, 26].all fun u => !Tryz.prog.wantsStandIn u) = true := by kernel_rfl
        exact (show Tryz.prog.wantsStandIn t = false by simpa using List.all_eq_true.1 hall t hm)⟩)
    (by kernel_rfl)
end Go.Proofs.YtneglhpbmlohlaaGreatDoor
