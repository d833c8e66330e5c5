/-
  DERIVED. GIVEN WITH THE SEED: THE CARDS: each row of YtnojjfklnihmnaaDoorRows.lean that lists a variable, with what it lists TIED to the program's text (the seventh form; the later family's looks); each row that meets fmt, with fmt's text TOLD by the authors' own Lean function (tested against real Go, not proved from fmt's source: count such statements apart). THE CARD IS WHAT COUNTS. Prove the row's statement (the work); the ties are given (YtnojjfklnihmnaaDoorTie.lean); close each card by the builder's one call (the guide's Derived/Test/ToyasCard.lean, 'card_holds'). Laid BY PROGRAM, IN A SANDBOX (cutbox-door.mjs). By AI agents, Wed Nov 11 2026. No macro, syntax, notation, axiom, sorry.
-/
import Derived.Test.YtnojjfklnihmnaaDoorRows
import GoSem.ClaimSeven
namespace Go.Proofs.YtnojjfklnihmnaaDoor
namespace Rows

/-- THE TIED CARD OF 'laws.FnSgOfParts'. -/
def fnSgOfPartsCard : Claim7 := { stood := { row := fnSgOfPartsRow, standIns := [], harness := (true, "3ea0396e679edf5f2d09ee3659949c7024f75c372017554399129504f958258d"), looks := true }, kinds := [], alts := [], laidByText := true, laidKinds := [.data, .sentinel, .pinned], laidTests := true, laidLooks := .later }
def FnSgOfPartsCardSaid : Prop := Claim7.holds Tryd.pinned (.plain (OpenSpec.ofChange fnSgOfPartsSpec)) fnSgOfPartsCard

/-- THE SECOND FORM's CARD OF 'laws.FnSgOfParts'. -/
def fnSgOfPartsUptoCard : Claim7 := { stood := { row := fnSgOfPartsUptoRow, standIns := [], harness := (true, "3ea0396e679edf5f2d09ee3659949c7024f75c372017554399129504f958258d"), looks := true }, kinds := [], alts := [], laidByText := true, laidKinds := [.data, .sentinel, .pinned], laidTests := true, laidLooks := .later }
def FnSgOfPartsUptoCardSaid : Prop := Claim7.holds Tryd.pinned (.plain (OpenSpec.upto fnSgOfPartsSpec)) fnSgOfPartsUptoCard
end Rows
end Go.Proofs.YtnojjfklnihmnaaDoor
