/-
  DERIVED. GIVEN WITH THE SEED: THE CARDS: each row of YtinmcopamjjlbaaGreatDoorRows.lean that lists a variable, with what it lists TIED to the program's text (the seventh form; the later family's looks); each row that meets fmt, with fmt's text TOLD by the authors' own Lean function (tested against real Go, not proved from fmt's source: count such statements apart). THE CARD IS WHAT COUNTS. Prove the row's statement (the work); the ties are given (YtinmcopamjjlbaaGreatDoorTie.lean); close each card by the builder's one call (the guide's Derived/Test/ToyasCard.lean, 'card_holds'). Laid BY PROGRAM, IN A SANDBOX (cutbox-door.mjs). By AI agents, Wed Nov 11 2026. No macro, syntax, notation, axiom, sorry.
-/
import Derived.Test.YtinmcopamjjlbaaGreatDoorRows
import GoSem.ClaimSeven
namespace Go.Proofs.YtinmcopamjjlbaaGreatDoor
namespace Rows

/-- THE TIED CARD OF 'laws.FnFlatten'. -/
def fnFlattenCard : Claim7 := { stood := { row := fnFlattenRow, standIns := [], harness := (true, "ed34e2cfd4deb627dad38afbbd3a15e29ae2309113502baa57c8bccf4f433810"), looks := true }, kinds := [], alts := [], laidByText := true, laidKinds := [.data, .data, .widerDeep, .widerDeep, .data, .data, .data, .data, .data, .data, .sentinel, .sentinel, .pinned, .pinned, .pinned], laidTests := true, laidLooks := .later }
def FnFlattenCardSaid : Prop := Claim7.holds Tryz.pinned (.plain (OpenSpec.ofChange fnFlattenSpec)) fnFlattenCard

/-- THE SECOND FORM's CARD OF 'laws.FnFlatten'. -/
def fnFlattenUptoCard : Claim7 := { stood := { row := fnFlattenUptoRow, standIns := [], harness := (true, "ed34e2cfd4deb627dad38afbbd3a15e29ae2309113502baa57c8bccf4f433810"), looks := true }, kinds := [], alts := [], laidByText := true, laidKinds := [.data, .data, .widerDeep, .widerDeep, .data, .data, .data, .data, .data, .data, .sentinel, .sentinel, .pinned, .pinned, .pinned], laidTests := true, laidLooks := .later }
def FnFlattenUptoCardSaid : Prop := Claim7.holds Tryz.pinned (.plain (OpenSpec.upto fnFlattenSpec)) fnFlattenUptoCard
end Rows
end Go.Proofs.YtinmcopamjjlbaaGreatDoor
