/- The card of laws.FnDelOne holds: the row is tied to the program's own text. -/
import Derived.Test.YtnaijgdffbfapaaGreatDoorZDelSaid
import Derived.Test.YtnaijgdffbfapaaGreatDoorTie
import Derived.Test.YtnaijgdffbfapaaGreatDoorCards
import Derived.SevenTiedAt
namespace Go.Proofs.YtnaijgdffbfapaaGreatDoor
open Go

theorem fnDelOne_card : Rows.FnDelOneCardSaid :=
  Claim7.holds_tied_plain_at .later [] Rows.fnDelOneCard.laidKinds true Rows.fnDelOneCard.stood.harness true
    fnDelOne_said (fun _ h => by cases h) (by kernel_rfl) (fun _ h => by cases h) fnDelOne_row_tie rfl ⟨rfl, rfl⟩ (by kernel_rfl) rfl
    (fun f fn hf hfn => by
      obtain rfl : f = 3 := Option.some.inj ((show Tryz.prog.funcNamed "pub-strainer/laws.FnDelOne" = some 3 by kernel_rfl).symm.trans hf) |>.symm
      obtain rfl : fn = Tryz.f3 := (Option.some.inj (Tryz.func3.symm.trans hfn)).symm
      exact ⟨by kernel_rfl, fun j t ht => by
        rw [Tryz.params3] at ht
        have hm : t ∈ [26, 27] := by simpa using Array.mem_of_getElem? ht
        have hall : ([26, 27].all fun u => !Tryz.prog.wantsStandIn u) = true := by kernel_rfl
        exact (show Tryz.prog.wantsStandIn t = false by simpa using List.all_eq_true.1 hall t hm)⟩)
    (by kernel_rfl)
end Go.Proofs.YtnaijgdffbfapaaGreatDoor
