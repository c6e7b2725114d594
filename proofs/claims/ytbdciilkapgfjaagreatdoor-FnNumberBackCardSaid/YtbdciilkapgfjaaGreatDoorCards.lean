/-
  DERIVED. GIVEN WITH THE SEED: THE CARDS: each row of YtbdciilkapgfjaaGreatDoorRows.lean that lists a variable, with what it lists TIED to the program's text (the seventh form; the later family's looks); each row that meets fmt, with fmt's text TOLD by the authors' own Lean function (tested against real Go, not proved from fmt's source: count such statements apart). THE CARD IS WHAT COUNTS. Prove the row's statement (the work); the ties are given (YtbdciilkapgfjaaGreatDoorTie.lean); close each card by the builder's one call (the guide's Derived/Test/ToyasCard.lean, 'card_holds'). Laid BY PROGRAM, IN A SANDBOX (cutbox-door.mjs). By AI agents, Wed Nov 11 2026. No macro, syntax, notation, axiom, sorry.
-/
import Derived.Test.YtbdciilkapgfjaaGreatDoorRows
import GoSem.ClaimSeven
namespace Go.Proofs.YtbdciilkapgfjaaGreatDoor
namespace Rows

/-- THE TIED CARD OF 'laws.FnNumberBack'. -/
def fnNumberBackCard : Claim7 := { stood := { row := fnNumberBackRow, standIns := [], harness := (true, "0c21c8402fad09a6d460d38b5713ce3faaffbb77884fd62be0a13a89e6510659"), looks := true }, kinds := [], alts := [], laidByText := true, laidKinds := [.data, .data, .widerDeep, .widerDeep, .data, .data, .data, .data, .data, .data, .sentinel, .sentinel, .pinned, .pinned, .pinned], laidTests := true, laidLooks := .later }
def FnNumberBackCardSaid : Prop := Claim7.holds Tryz.pinned (.plain (OpenSpec.ofChange fnNumberBackSpec)) fnNumberBackCard

/-- THE SECOND FORM's CARD OF 'laws.FnNumberBack'. -/
def fnNumberBackUptoCard : Claim7 := { stood := { row := fnNumberBackUptoRow, standIns := [], harness := (true, "0c21c8402fad09a6d460d38b5713ce3faaffbb77884fd62be0a13a89e6510659"), looks := true }, kinds := [], alts := [], laidByText := true, laidKinds := [.data, .data, .widerDeep, .widerDeep, .data, .data, .data, .data, .data, .data, .sentinel, .sentinel, .pinned, .pinned, .pinned], laidTests := true, laidLooks := .later }
def FnNumberBackUptoCardSaid : Prop := Claim7.holds Tryz.pinned (.plain (OpenSpec.upto fnNumberBackSpec)) fnNumberBackUptoCard
end Rows
end Go.Proofs.YtbdciilkapgfjaaGreatDoor
