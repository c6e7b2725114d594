/-
  DERIVED. GIVEN WITH THE SEED: THE CARDS: each row of YtnaijgdffbfapaaGreatDoorRows.lean that lists a variable, with what it lists TIED to the program's text (the seventh form; the later family's looks); each row that meets fmt, with fmt's text TOLD by the authors' own Lean function (tested against real Go, not proved from fmt's source: count such statements apart). THE CARD IS WHAT COUNTS. Prove the row's statement (the work); the ties are given (YtnaijgdffbfapaaGreatDoorTie.lean); close each card by the builder's one call (the guide's Derived/Test/ToyasCard.lean, 'card_holds'). Laid BY PROGRAM, IN A SANDBOX (cutbox-door.mjs). By AI agents, Wed Nov 11 2026. No macro, syntax, notation, axiom, sorry.
-/
import Derived.Test.YtnaijgdffbfapaaGreatDoorRows
import GoSem.ClaimSeven
namespace Go.Proofs.YtnaijgdffbfapaaGreatDoor
namespace Rows

/-- THE TIED CARD OF 'laws.FnDelOne'. -/
def fnDelOneCard : Claim7 := { stood := { row := fnDelOneRow, standIns := [], harness := (true, "fc05f4008d799e24be38f4d52c6fd74f53a609c708150a40ee8796770753f13e"), looks := true }, kinds := [], alts := [], laidByText := true, laidKinds := [.data, .data, .widerDeep, .widerDeep, .data, .data, .data, .data, .data, .data, .sentinel, .sentinel, .pinned, .pinned, .pinned], laidTests := true, laidLooks := .later }
def FnDelOneCardSaid : Prop := Claim7.holds Tryz.pinned (.plain (OpenSpec.ofChange fnDelOneSpec)) fnDelOneCard

/-- THE SECOND FORM's CARD OF 'laws.FnDelOne'. -/
def fnDelOneUptoCard : Claim7 := { stood := { row := fnDelOneUptoRow, standIns := [], harness := (true, "fc05f4008d799e24be38f4d52c6fd74f53a609c708150a40ee8796770753f13e"), looks := true }, kinds := [], alts := [], laidByText := true, laidKinds := [.data, .data, .widerDeep, .widerDeep, .data, .data, .data, .data, .data, .data, .sentinel, .sentinel, .pinned, .pinned, .pinned], laidTests := true, laidLooks := .later }
def FnDelOneUptoCardSaid : Prop := Claim7.holds Tryz.pinned (.plain (OpenSpec.upto fnDelOneSpec)) fnDelOneUptoCard
end Rows
end Go.Proofs.YtnaijgdffbfapaaGreatDoor
