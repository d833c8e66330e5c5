/-
  DERIVED. GIVEN WITH THE SEED: THE CARDS: each row of YtdooimdefmegaaaDoorRows.lean that lists a variable, with what it lists TIED to the program's text (the seventh form; the later family's looks); each row that meets fmt, with fmt's text TOLD by the authors' own Lean function (tested against real Go, not proved from fmt's source: count such statements apart). THE CARD IS WHAT COUNTS. Prove the row's statement (the work); the ties are given (YtdooimdefmegaaaDoorTie.lean); close each card by the builder's one call (the guide's Derived/Test/ToyasCard.lean, 'card_holds'). Laid BY PROGRAM, IN A SANDBOX (cutbox-door.mjs). By AI agents, Wed Nov 11 2026. No macro, syntax, notation, axiom, sorry.
-/
import Derived.Test.YtdooimdefmegaaaDoorRows
import GoSem.ClaimSeven
namespace Go.Proofs.YtdooimdefmegaaaDoor
namespace Rows

/-- THE TIED CARD OF 'laws.FnWrFullLarge'. -/
def fnWrFullLargeCard : Claim7 := { stood := { row := fnWrFullLargeRow, standIns := [], harness := (true, "26add9f77abe36c2ccfd15754447fd9c5e380d4f863a58943fb1926acb57cd3b"), looks := true }, kinds := [], alts := [], laidByText := true, laidKinds := [.sentinel, .sentinel, .sentinel], laidTests := true, laidLooks := .later }
def FnWrFullLargeCardSaid : Prop := Claim7.holds Tryd.pinned (.plain (OpenSpec.ofChange fnWrFullLargeSpec)) fnWrFullLargeCard

/-- THE TIED CARD OF 'laws.FnWrFullPieces'. -/
def fnWrFullPiecesCard : Claim7 := { stood := { row := fnWrFullPiecesRow, standIns := [], harness := (true, "26add9f77abe36c2ccfd15754447fd9c5e380d4f863a58943fb1926acb57cd3b"), looks := true }, kinds := [], alts := [], laidByText := true, laidKinds := [.sentinel, .sentinel, .sentinel], laidTests := true, laidLooks := .later }
def FnWrFullPiecesCardSaid : Prop := Claim7.holds Tryd.pinned (.plain (OpenSpec.ofChange fnWrFullPiecesSpec)) fnWrFullPiecesCard

/-- THE TIED CARD OF 'laws.FnMtWithRange'. -/
def fnMtWithRangeCard : Claim7 := { stood := { row := fnMtWithRangeRow, standIns := [], harness := (true, "26add9f77abe36c2ccfd15754447fd9c5e380d4f863a58943fb1926acb57cd3b"), looks := true }, kinds := [], alts := [], laidByText := true, laidKinds := [.data, .data, .data], laidTests := true, laidLooks := .later }
def FnMtWithRangeCardSaid : Prop := Claim7.holds Tryd.pinned (.plain (OpenSpec.ofChange fnMtWithRangeSpec)) fnMtWithRangeCard

/-- THE SECOND FORM's CARD OF 'laws.FnWrFullLarge'. -/
def fnWrFullLargeUptoCard : Claim7 := { stood := { row := fnWrFullLargeUptoRow, standIns := [], harness := (true, "26add9f77abe36c2ccfd15754447fd9c5e380d4f863a58943fb1926acb57cd3b"), looks := true }, kinds := [], alts := [], laidByText := true, laidKinds := [.sentinel, .sentinel, .sentinel], laidTests := true, laidLooks := .later }
def FnWrFullLargeUptoCardSaid : Prop := Claim7.holds Tryd.pinned (.plain (OpenSpec.upto fnWrFullLargeSpec)) fnWrFullLargeUptoCard

/-- THE SECOND FORM's CARD OF 'laws.FnWrFullPieces'. -/
def fnWrFullPiecesUptoCard : Claim7 := { stood := { row := fnWrFullPiecesUptoRow, standIns := [], harness := (true, "26add9f77abe36c2ccfd15754447fd9c5e380d4f863a58943fb1926acb57cd3b"), looks := true }, kinds := [], alts := [], laidByText := true, laidKinds := [.sentinel, .sentinel, .sentinel], laidTests := true, laidLooks := .later }
def FnWrFullPiecesUptoCardSaid : Prop := Claim7.holds Tryd.pinned (.plain (OpenSpec.upto fnWrFullPiecesSpec)) fnWrFullPiecesUptoCard

/-- THE SECOND FORM's CARD OF 'laws.FnMtWithRange'. -/
def fnMtWithRangeUptoCard : Claim7 := { stood := { row := fnMtWithRangeUptoRow, standIns := [], harness := (true, "26add9f77abe36c2ccfd15754447fd9c5e380d4f863a58943fb1926acb57cd3b"), looks := true }, kinds := [], alts := [], laidByText := true, laidKinds := [.data, .data, .data], laidTests := true, laidLooks := .later }
def FnMtWithRangeUptoCardSaid : Prop := Claim7.holds Tryd.pinned (.plain (OpenSpec.upto fnMtWithRangeSpec)) fnMtWithRangeUptoCard
end Rows
end Go.Proofs.YtdooimdefmegaaaDoor
