/-
  DERIVED. GIVEN WITH THE SEED: THE CARDS: each row of YtkfpaliiecmjoaaGreatDoorRows.lean that lists a variable, with what it lists TIED to the program's text (the seventh form; the later family's looks); each row that meets fmt, with fmt's text TOLD by the authors' own Lean function (tested against real Go, not proved from fmt's source: count such statements apart). THE CARD IS WHAT COUNTS. Prove the row's statement (the work); the ties are given (YtkfpaliiecmjoaaGreatDoorTie.lean); close each card by the builder's one call (the guide's Derived/Test/ToyasCard.lean, 'card_holds'). Laid BY PROGRAM, IN A SANDBOX (cutbox-door.mjs). By AI agents, Wed Nov 11 2026. No macro, syntax, notation, axiom, sorry.
-/
import Derived.Test.YtkfpaliiecmjoaaGreatDoorRows
import GoSem.ClaimSeven
namespace Go.Proofs.YtkfpaliiecmjoaaGreatDoor
namespace Rows

/-- THE TIED CARD OF 'laws.FnHas'. -/
def fnHasCard : Claim7 := { stood := { row := fnHasRow, standIns := [], harness := (true, "2de5f9ad4453b4b68c880899eebf78a3a7e46aa1182d12c0039958f3dcc36eb3"), looks := true }, kinds := [], alts := [], laidByText := true, laidKinds := [.data, .data, .widerDeep, .widerDeep, .data, .data, .data, .data, .data, .data, .sentinel, .sentinel, .pinned, .pinned, .pinned], laidTests := true, laidLooks := .later }
def FnHasCardSaid : Prop := Claim7.holds Tryz.pinned (.plain (OpenSpec.ofChange fnHasSpec)) fnHasCard

/-- THE SECOND FORM's CARD OF 'laws.FnHas'. -/
def fnHasUptoCard : Claim7 := { stood := { row := fnHasUptoRow, standIns := [], harness := (true, "2de5f9ad4453b4b68c880899eebf78a3a7e46aa1182d12c0039958f3dcc36eb3"), looks := true }, kinds := [], alts := [], laidByText := true, laidKinds := [.data, .data, .widerDeep, .widerDeep, .data, .data, .data, .data, .data, .data, .sentinel, .sentinel, .pinned, .pinned, .pinned], laidTests := true, laidLooks := .later }
def FnHasUptoCardSaid : Prop := Claim7.holds Tryz.pinned (.plain (OpenSpec.upto fnHasSpec)) fnHasUptoCard
end Rows
end Go.Proofs.YtkfpaliiecmjoaaGreatDoor
