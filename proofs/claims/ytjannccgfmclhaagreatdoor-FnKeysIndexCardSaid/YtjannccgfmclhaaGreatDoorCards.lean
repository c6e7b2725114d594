/-
  DERIVED. GIVEN WITH THE SEED: THE CARDS: each row of YtjannccgfmclhaaGreatDoorRows.lean that lists a variable, with what it lists TIED to the program's text (the seventh form; the later family's looks); each row that meets fmt, with fmt's text TOLD by the authors' own Lean function (tested against real Go, not proved from fmt's source: count such statements apart). THE CARD IS WHAT COUNTS. Prove the row's statement (the work); the ties are given (YtjannccgfmclhaaGreatDoorTie.lean); close each card by the builder's one call (the guide's Derived/Test/ToyasCard.lean, 'card_holds'). Laid BY PROGRAM, IN A SANDBOX (cutbox-door.mjs). By AI agents, Wed Nov 11 2026. No macro, syntax, notation, axiom, sorry.
-/
import Derived.Test.YtjannccgfmclhaaGreatDoorRows
import GoSem.ClaimSeven
namespace Go.Proofs.YtjannccgfmclhaaGreatDoor
namespace Rows

/-- THE TIED CARD OF 'laws.FnKeysIndex'. -/
def fnKeysIndexCard : Claim7 := { stood := { row := fnKeysIndexRow, standIns := [], harness := (true, "033e423b92bc8a20d81f778b74a6a462c264d71c9f78a22f17431867e5c3062d"), looks := true }, kinds := [], alts := [], laidByText := true, laidKinds := [.data, .data, .widerDeep, .widerDeep, .data, .data, .data, .data, .data, .data, .sentinel, .sentinel, .pinned, .pinned, .pinned], laidTests := true, laidLooks := .later }
def FnKeysIndexCardSaid : Prop := Claim7.holds Tryz.pinned (.plain (OpenSpec.ofChange fnKeysIndexSpec)) fnKeysIndexCard

/-- THE SECOND FORM's CARD OF 'laws.FnKeysIndex'. -/
def fnKeysIndexUptoCard : Claim7 := { stood := { row := fnKeysIndexUptoRow, standIns := [], harness := (true, "033e423b92bc8a20d81f778b74a6a462c264d71c9f78a22f17431867e5c3062d"), looks := true }, kinds := [], alts := [], laidByText := true, laidKinds := [.data, .data, .widerDeep, .widerDeep, .data, .data, .data, .data, .data, .data, .sentinel, .sentinel, .pinned, .pinned, .pinned], laidTests := true, laidLooks := .later }
def FnKeysIndexUptoCardSaid : Prop := Claim7.holds Tryz.pinned (.plain (OpenSpec.upto fnKeysIndexSpec)) fnKeysIndexUptoCard
end Rows
end Go.Proofs.YtjannccgfmclhaaGreatDoor
