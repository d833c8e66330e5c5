/-
  DERIVED. GIVEN WITH THE SEED: THE CARDS: each row of YthkblpbabcibcaaDoorRows.lean that lists a variable, with what it lists TIED to the program's text (the seventh form; the later family's looks); each row that meets fmt, with fmt's text TOLD by the authors' own Lean function (tested against real Go, not proved from fmt's source: count such statements apart). THE CARD IS WHAT COUNTS. Prove the row's statement (the work); the ties are given (YthkblpbabcibcaaDoorTie.lean); close each card by the builder's one call (the guide's Derived/Test/ToyasCard.lean, 'card_holds'). Laid BY PROGRAM, IN A SANDBOX (cutbox-door.mjs). By AI agents, Wed Nov 11 2026. No macro, syntax, notation, axiom, sorry.
-/
import Derived.Test.YthkblpbabcibcaaDoorRows
import GoSem.ClaimSeven
namespace Go.Proofs.YthkblpbabcibcaaDoor
namespace Rows

/-- THE TIED CARD OF 'laws.FnWrAlign'. -/
def fnWrAlignCard : Claim7 := { stood := { row := fnWrAlignRow, standIns := [], harness := (true, "189fa8f33c3c3b8178956018f771a4ca759376e6cc1ce72bc8dc31d929a1fffb"), looks := false }, kinds := [], alts := [], laidByText := true, laidKinds := [.sentinel], laidTests := true, laidLooks := .later }
def FnWrAlignCardSaid : Prop := Claim7.holds Tryd.pinned (.plain (OpenSpec.ofChange fnWrAlignSpec)) fnWrAlignCard

/-- THE SECOND FORM's CARD OF 'laws.FnWrAlign'. -/
def fnWrAlignUptoCard : Claim7 := { stood := { row := fnWrAlignUptoRow, standIns := [], harness := (true, "189fa8f33c3c3b8178956018f771a4ca759376e6cc1ce72bc8dc31d929a1fffb"), looks := false }, kinds := [], alts := [], laidByText := true, laidKinds := [.sentinel], laidTests := true, laidLooks := .later }
def FnWrAlignUptoCardSaid : Prop := Claim7.holds Tryd.pinned (.plain (OpenSpec.upto fnWrAlignSpec)) fnWrAlignUptoCard
end Rows
end Go.Proofs.YthkblpbabcibcaaDoor
