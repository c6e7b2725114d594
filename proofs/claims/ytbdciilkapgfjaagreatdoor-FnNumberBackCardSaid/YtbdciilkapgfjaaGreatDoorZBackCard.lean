/- A part of the proof. -/
import Derived.Test.YtbdciilkapgfjaaGreatDoorZBackSaid
import Derived.Test.YtbdciilkapgfjaaGreatDoorTie
import Derived.Test.YtbdciilkapgfjaaGreatDoorCards
import Derived.SevenTiedAt
namespace Go.Proofs.YtbdciilkapgfjaaGreatDoor
open Go

theorem fnNumberBack_card : Rows.FnNumberBackCardSaid :=
  Claim7.holds_tied_plain_at .later [] Rows.fnNumberBackCard.laidKinds true Rows.fnNumberBackCard.stood.harness true
    fnNumberBack_said (fun _ h => by cases h) (by kernel_rfl) (fun _ h => by cases h) fnNumberBack_row_tie rfl ⟨rfl, rfl⟩ (by kernel_rfl) rfl
    (fun f fn hf hfn => by
      obtain rfl : f = 3 := Option.some.inj ((show Tryz.prog.funcNamed "pub-strainer/laws.FnNumberBack" = some 3 by kernel_rfl).symm.trans hf) |>.symm
      obtain rfl : fn = Tryz.f3 := (Option.some.inj (Tryz.func3.symm.trans hfn)).symm
      exact ⟨by kernel_rfl, fun j t ht => by
        rw [Tryz.params3] at ht
        have hm : t ∈ [3] := by simpa using Array.mem_of_getElem? ht
        have hall : ([3].all fun u => !Tryz.prog.wantsStandIn u) = true := by kernel_rfl
        exact (show Tryz.prog.wantsStandIn t = false by simpa using List.all_eq_true.1 hall t hm)⟩)
    (by kernel_rfl)
end Go.Proofs.YtbdciilkapgfjaaGreatDoor
