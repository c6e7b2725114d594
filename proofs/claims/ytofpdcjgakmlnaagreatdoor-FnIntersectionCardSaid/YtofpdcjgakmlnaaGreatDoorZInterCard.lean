/- A part of the proof. -/
import Derived.Test.YtofpdcjgakmlnaaGreatDoorZInterSaid
import Derived.Test.YtofpdcjgakmlnaaGreatDoorTie
import Derived.Test.YtofpdcjgakmlnaaGreatDoorCards
import Derived.SevenTiedAt
namespace Go.Proofs.YtofpdcjgakmlnaaGreatDoor
open Go

theorem fnIntersection_card : Rows.FnIntersectionCardSaid :=
  Claim7.holds_tied_plain_at .later [] Rows.fnIntersectionCard.laidKinds true Rows.fnIntersectionCard.stood.harness true
    fnIntersection_said (fun _ h => by cases h) (by kernel_rfl) (fun _ h => by cases h) fnIntersection_row_tie rfl ⟨rfl, rfl⟩ (by kernel_rfl) rfl
    (fun f fn hf hfn => by
      obtain rfl : f = 3 := Option.some.inj ((show Tryz.prog.funcNamed "pub-strainer/laws.FnIntersection" = some 3 by kernel_rfl).symm.trans hf) |>.symm
      obtain rfl : fn = Tryz.f3 := (Option.some.inj (Tryz.func3.symm.trans hfn)).symm
      exact ⟨by kernel_rfl, fun j t ht => by
        rw [Tryz.params3] at ht
        have hm : t ∈ [22, 22] := by simpa using Array.mem_of_getElem? ht
        have hall : ([22, 22].all fun u => !Tryz.prog.wantsStandIn u) = true := by kernel_rfl
        exact (show Tryz.prog.wantsStandIn t = false by simpa using List.all_eq_true.1 hall t hm)⟩)
    (by kernel_rfl)
end Go.Proofs.YtofpdcjgakmlnaaGreatDoor
