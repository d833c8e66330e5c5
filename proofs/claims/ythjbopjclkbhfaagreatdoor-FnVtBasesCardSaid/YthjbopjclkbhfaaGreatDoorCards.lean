/-
  DERIVED. GIVEN WITH THE SEED: THE CARDS: each row of YthjbopjclkbhfaaGreatDoorRows.lean that lists a variable, with what it lists TIED to the program's text (the seventh form; the later family's looks); each row that meets fmt, with fmt's text TOLD by the authors' own Lean function (tested against real Go, not proved from fmt's source: count such statements apart). THE CARD IS WHAT COUNTS. Prove the row's statement (the work); the ties are given (YthjbopjclkbhfaaGreatDoorTie.lean); close each card by the builder's one call (the guide's Derived/Test/ToyasCard.lean, 'card_holds'). Laid BY PROGRAM, IN A SANDBOX (cutbox-door.mjs). By AI agents, Wed Nov 11 2026. No macro, syntax, notation, axiom, sorry.
-/
import Derived.Test.YthjbopjclkbhfaaGreatDoorRows
import GoSem.ClaimSeven
namespace Go.Proofs.YthjbopjclkbhfaaGreatDoor
namespace Rows

/-- THE TIED CARD OF 'laws.FnVtBases'. -/
def fnVtBasesCard : Claim7 := { stood := { row := fnVtBasesRow, standIns := [], harness := (true, "3d3892f0425f5adbb3826a0230c222032d38235fa017c30c1f5d8be4ad20d189"), looks := true }, kinds := [], alts := [], laidByText := true, laidKinds := [.data, .data, .widerDeep, .widerDeep, .data, .data, .data, .data, .data, .sentinel, .sentinel, .pinned, .pinned], laidTests := true, laidLooks := .later }
def FnVtBasesCardSaid : Prop := Claim7.holds Tryz.pinned (.plain (OpenSpec.ofChange fnVtBasesSpec)) fnVtBasesCard

/-- THE SECOND FORM's CARD OF 'laws.FnVtBases'. -/
def fnVtBasesUptoCard : Claim7 := { stood := { row := fnVtBasesUptoRow, standIns := [], harness := (true, "3d3892f0425f5adbb3826a0230c222032d38235fa017c30c1f5d8be4ad20d189"), looks := true }, kinds := [], alts := [], laidByText := true, laidKinds := [.data, .data, .widerDeep, .widerDeep, .data, .data, .data, .data, .data, .sentinel, .sentinel, .pinned, .pinned], laidTests := true, laidLooks := .later }
def FnVtBasesUptoCardSaid : Prop := Claim7.holds Tryz.pinned (.plain (OpenSpec.upto fnVtBasesSpec)) fnVtBasesUptoCard
end Rows
end Go.Proofs.YthjbopjclkbhfaaGreatDoor
