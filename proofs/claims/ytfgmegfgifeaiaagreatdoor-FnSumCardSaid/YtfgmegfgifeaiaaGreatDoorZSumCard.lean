/- A part of the proof. -/
import Derived.Test.YtfgmegfgifeaiaaGreatDoorZSumSaid
import Derived.Test.YtfgmegfgifeaiaaGreatDoorTie
import Derived.Test.YtfgmegfgifeaiaaGreatDoorCards
import Derived.SevenTiedAt
namespace Go.Proofs.YtfgmegfgifeaiaaGreatDoor
open Go

theorem fnSum_card : Rows.FnSumCardSaid :=
  Claim7.holds_tied_plain_at .later [] Rows.fnSumCard.laidKinds true Rows.fnSumCard.stood.harness true
    fnSum_said (fun _ h => by cases h) (by kernel_rfl) (fun _ h => by cases h) fnSum_row_tie rfl ⟨rfl, rfl⟩ (by kernel_rfl) rfl
    (fun f fn hf hfn => by
      obtain rfl : f = 3 := Option.some.inj ((show Tryz.prog.funcNamed "pub-strainer/laws.FnSum" = some 3 by kernel_rfl).symm.trans hf) |>.symm
      obtain rfl : fn = Tryz.f3 := (Option.some.inj (Tryz.func3.symm.trans hfn)).symm
      exact ⟨by kernel_rfl, fun j t ht => by
        rw [Tryz.params3] at ht
        have hm : t ∈ [26] := by simpa using Array.mem_of_getElem? ht
        have hall : ([26].all fun u => !Tryz.prog.wantsStandIn u) = true := by kernel_rfl
        exact (show Tryz.prog.wantsStandIn t = false by simpa using List.all_eq_true.1 hall t hm)⟩)
    (by kernel_rfl)
end Go.Proofs.YtfgmegfgifeaiaaGreatDoor
