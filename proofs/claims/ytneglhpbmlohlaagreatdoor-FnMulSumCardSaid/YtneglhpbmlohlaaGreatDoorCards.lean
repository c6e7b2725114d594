/-
  DERIVED. GIVEN WITH THE SEED: THE CARDS: each row of YtneglhpbmlohlaaGreatDoorRows.lean that lists a variable, with what it lists TIED to the program's text (the seventh form; the later family's looks); each row that meets fmt, with fmt's text TOLD by the authors' own Lean function (tested against real Go, not proved from fmt's source: count such statements apart). THE CARD IS WHAT COUNTS. Prove the row's statement (the work); the ties are given (YtneglhpbmlohlaaGreatDoorTie.lean); close each card by the builder's one call (the guide's Derived/Test/ToyasCard.lean, 'card_holds'). Laid BY PROGRAM, IN A SANDBOX (cutbox-door.mjs). By AI agents, Wed Nov 11 2026. No macro, syntax, notation, axiom, sorry.
-/
import Derived.Test.YtneglhpbmlohlaaGreatDoorRows
import GoSem.ClaimSeven
namespace Go.Proofs.YtneglhpbmlohlaaGreatDoor
namespace Rows

/-- THE TIED CARD OF 'laws.FnMulSum'. -/
def fnMulSumCard : Claim7 := { stood := { row := fnMulSumRow, standIns := [], harness := (true, "84727a1f918aff66fdfaf09a7e95c3e0b9e6f8914765966302d2697af25e3ed0"), looks := true }, kinds := [], alts := [], laidByText := true, laidKinds := [.data, .data, .widerDeep, .widerDeep, .data, .data, .data, .data, .data, .data, .sentinel, .sentinel, .pinned, .pinned, .pinned], laidTests := true, laidLooks := .later }
def FnMulSumCardSaid : Prop := Claim7.holds Tryz.pinned (.plain (OpenSpec.ofChange fnMulSumSpec)) fnMulSumCard

/-- THE SECOND FORM's CARD OF 'laws.FnMulSum'. -/
def fnMulSumUptoCard : Claim7 := { stood := { row := fnMulSumUptoRow, standIns := [], harness := (true, "84727a1f918aff66fdfaf09a7e95c3e0b9e6f8914765966302d2697af25e3ed0"), looks := true }, kinds := [], alts := [], laidByText := true, laidKinds := [.data, .data, .widerDeep, .widerDeep, .data, .data, .data, .data, .data, .data, .sentinel, .sentinel, .pinned, .pinned, .pinned], laidTests := true, laidLooks := .later }
def FnMulSumUptoCardSaid : Prop := Claim7.holds Tryz.pinned (.plain (OpenSpec.upto fnMulSumSpec)) fnMulSumUptoCard
end Rows
end Go.Proofs.YtneglhpbmlohlaaGreatDoor
