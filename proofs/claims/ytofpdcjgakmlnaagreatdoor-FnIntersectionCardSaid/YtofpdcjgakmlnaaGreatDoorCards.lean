/-
  DERIVED. GIVEN WITH THE SEED: THE CARDS: each row of YtofpdcjgakmlnaaGreatDoorRows.lean that lists a variable, with what it lists TIED to the program's text (the seventh form; the later family's looks); each row that meets fmt, with fmt's text TOLD by the authors' own Lean function (tested against real Go, not proved from fmt's source: count such statements apart). THE CARD IS WHAT COUNTS. Prove the row's statement (the work); the ties are given (YtofpdcjgakmlnaaGreatDoorTie.lean); close each card by the builder's one call (the guide's Derived/Test/ToyasCard.lean, 'card_holds'). Laid BY PROGRAM, IN A SANDBOX (cutbox-door.mjs). By AI agents, Wed Nov 11 2026. No macro, syntax, notation, axiom, sorry.
-/
import Derived.Test.YtofpdcjgakmlnaaGreatDoorRows
import GoSem.ClaimSeven
namespace Go.Proofs.YtofpdcjgakmlnaaGreatDoor
namespace Rows

/-- THE TIED CARD OF 'laws.FnIntersection'. -/
def fnIntersectionCard : Claim7 := { stood := { row := fnIntersectionRow, standIns := [], harness := (true, "4b9a43e2b5c5939705e46c6c99f658e6e947918d2a921bf3149f171e321526ae"), looks := true }, kinds := [], alts := [], laidByText := true, laidKinds := [.data, .data, .widerDeep, .widerDeep, .data, .data, .data, .data, .data, .data, .sentinel, .sentinel, .pinned, .pinned, .pinned], laidTests := true, laidLooks := .later }
def FnIntersectionCardSaid : Prop := Claim7.holds Tryz.pinned (.plain (OpenSpec.ofChange fnIntersectionSpec)) fnIntersectionCard

/-- THE SECOND FORM's CARD OF 'laws.FnIntersection'. -/
def fnIntersectionUptoCard : Claim7 := { stood := { row := fnIntersectionUptoRow, standIns := [], harness := (true, "4b9a43e2b5c5939705e46c6c99f658e6e947918d2a921bf3149f171e321526ae"), looks := true }, kinds := [], alts := [], laidByText := true, laidKinds := [.data, .data, .widerDeep, .widerDeep, .data, .data, .data, .data, .data, .data, .sentinel, .sentinel, .pinned, .pinned, .pinned], laidTests := true, laidLooks := .later }
def FnIntersectionUptoCardSaid : Prop := Claim7.holds Tryz.pinned (.plain (OpenSpec.upto fnIntersectionSpec)) fnIntersectionUptoCard
end Rows
end Go.Proofs.YtofpdcjgakmlnaaGreatDoor
