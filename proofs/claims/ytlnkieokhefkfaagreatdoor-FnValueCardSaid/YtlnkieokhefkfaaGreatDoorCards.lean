/-
  DERIVED. GIVEN WITH THE SEED: THE CARDS: each row of YtlnkieokhefkfaaGreatDoorRows.lean that lists a variable, with what it lists TIED to the program's text (the seventh form; the later family's looks); each row that meets fmt, with fmt's text TOLD by the authors' own Lean function (tested against real Go, not proved from fmt's source: count such statements apart). THE CARD IS WHAT COUNTS. Prove the row's statement (the work); the ties are given (YtlnkieokhefkfaaGreatDoorTie.lean); close each card by the builder's one call (the guide's Derived/Test/ToyasCard.lean, 'card_holds'). Laid BY PROGRAM, IN A SANDBOX (cutbox-door.mjs). By AI agents, Wed Nov 11 2026. No macro, syntax, notation, axiom, sorry.
-/
import Derived.Test.YtlnkieokhefkfaaGreatDoorRows
import GoSem.ClaimSeven
namespace Go.Proofs.YtlnkieokhefkfaaGreatDoor
namespace Rows

/-- THE TIED CARD OF 'laws.FnValue'. -/
def fnValueCard : Claim7 := { stood := { row := fnValueRow, standIns := [], harness := (true, "221c885e2af4419a9849e824e5dfb6f62b44574c08f61daec3995de2a61cc354"), looks := true }, kinds := [], alts := [], laidByText := true, laidKinds := [.data, .data, .widerDeep, .widerDeep, .data, .data, .data, .data, .data, .data, .sentinel, .sentinel, .pinned, .pinned, .pinned, .pinned, .pinned, .pinned, .pinned, .pinned], laidTests := true, laidLooks := .later }
def FnValueCardSaid : Prop := Claim7.holds Tryz.pinned (.plain (OpenSpec.ofChange fnValueSpec)) fnValueCard

/-- THE SECOND FORM's CARD OF 'laws.FnValue'. -/
def fnValueUptoCard : Claim7 := { stood := { row := fnValueUptoRow, standIns := [], harness := (true, "221c885e2af4419a9849e824e5dfb6f62b44574c08f61daec3995de2a61cc354"), looks := true }, kinds := [], alts := [], laidByText := true, laidKinds := [.data, .data, .widerDeep, .widerDeep, .data, .data, .data, .data, .data, .data, .sentinel, .sentinel, .pinned, .pinned, .pinned, .pinned, .pinned, .pinned, .pinned, .pinned], laidTests := true, laidLooks := .later }
def FnValueUptoCardSaid : Prop := Claim7.holds Tryz.pinned (.plain (OpenSpec.upto fnValueSpec)) fnValueUptoCard
end Rows
end Go.Proofs.YtlnkieokhefkfaaGreatDoor
