/-
  DERIVED. GIVEN WITH THE SEED: THE CARDS: each row of YtgljkbhjbefikaaDoorRows.lean that lists a variable, with what it lists TIED to the program's text (the seventh form; the later family's looks); each row that meets fmt, with fmt's text TOLD by the authors' own Lean function (tested against real Go, not proved from fmt's source: count such statements apart). THE CARD IS WHAT COUNTS. Prove the row's statement (the work); the ties are given (YtgljkbhjbefikaaDoorTie.lean); close each card by the builder's one call (the guide's Derived/Test/ToyasCard.lean, 'card_holds'). Laid BY PROGRAM, IN A SANDBOX (cutbox-door.mjs). By AI agents, Wed Nov 11 2026. No macro, syntax, notation, axiom, sorry.
-/
import Derived.Test.YtgljkbhjbefikaaDoorRows
import GoSem.ClaimSeven
namespace Go.Proofs.YtgljkbhjbefikaaDoor
namespace Rows

/-- THE TIED CARD OF 'laws.FnVtBytesJoin'. -/
def fnVtBytesJoinCard : Claim7 := { stood := { row := fnVtBytesJoinRow, standIns := [], harness := (true, "416a79aaa4586a005d179bfa6ebed0fd108f296811b2395cbb99ebe06da79f94"), looks := true }, kinds := [], alts := [], laidByText := true, laidKinds := [.data, .data, .data, .sentinel, .sentinel], laidTests := true, laidLooks := .later }
def FnVtBytesJoinCardSaid : Prop := Claim7.holds Tryd.pinned (.plain (OpenSpec.ofChange fnVtBytesJoinSpec)) fnVtBytesJoinCard

/-- THE TIED CARD OF 'laws.FnVtUnquotePlain'. -/
def fnVtUnquotePlainCard : Claim7 := { stood := { row := fnVtUnquotePlainRow, standIns := [], harness := (true, "416a79aaa4586a005d179bfa6ebed0fd108f296811b2395cbb99ebe06da79f94"), looks := true }, kinds := [], alts := [], laidByText := true, laidKinds := [.data, .data, .data, .data, .sentinel, .sentinel, .sentinel, .pinned], laidTests := true, laidLooks := .later }
def FnVtUnquotePlainCardSaid : Prop := Claim7.holds Tryd.pinned (.plain (OpenSpec.ofChange fnVtUnquotePlainSpec)) fnVtUnquotePlainCard

/-- THE TIED CARD OF 'laws.FnSgOfParts'. -/
def fnSgOfPartsCard : Claim7 := { stood := { row := fnSgOfPartsRow, standIns := [], harness := (true, "416a79aaa4586a005d179bfa6ebed0fd108f296811b2395cbb99ebe06da79f94"), looks := true }, kinds := [], alts := [], laidByText := true, laidKinds := [.data, .sentinel, .pinned], laidTests := true, laidLooks := .later }
def FnSgOfPartsCardSaid : Prop := Claim7.holds Tryd.pinned (.plain (OpenSpec.ofChange fnSgOfPartsSpec)) fnSgOfPartsCard

/-- THE SECOND FORM's CARD OF 'laws.FnVtBytesJoin'. -/
def fnVtBytesJoinUptoCard : Claim7 := { stood := { row := fnVtBytesJoinUptoRow, standIns := [], harness := (true, "416a79aaa4586a005d179bfa6ebed0fd108f296811b2395cbb99ebe06da79f94"), looks := true }, kinds := [], alts := [], laidByText := true, laidKinds := [.data, .data, .data, .sentinel, .sentinel], laidTests := true, laidLooks := .later }
def FnVtBytesJoinUptoCardSaid : Prop := Claim7.holds Tryd.pinned (.plain (OpenSpec.upto fnVtBytesJoinSpec)) fnVtBytesJoinUptoCard

/-- THE SECOND FORM's CARD OF 'laws.FnVtUnquotePlain'. -/
def fnVtUnquotePlainUptoCard : Claim7 := { stood := { row := fnVtUnquotePlainUptoRow, standIns := [], harness := (true, "416a79aaa4586a005d179bfa6ebed0fd108f296811b2395cbb99ebe06da79f94"), looks := true }, kinds := [], alts := [], laidByText := true, laidKinds := [.data, .data, .data, .data, .sentinel, .sentinel, .sentinel, .pinned], laidTests := true, laidLooks := .later }
def FnVtUnquotePlainUptoCardSaid : Prop := Claim7.holds Tryd.pinned (.plain (OpenSpec.upto fnVtUnquotePlainSpec)) fnVtUnquotePlainUptoCard

/-- THE SECOND FORM's CARD OF 'laws.FnSgOfParts'. -/
def fnSgOfPartsUptoCard : Claim7 := { stood := { row := fnSgOfPartsUptoRow, standIns := [], harness := (true, "416a79aaa4586a005d179bfa6ebed0fd108f296811b2395cbb99ebe06da79f94"), looks := true }, kinds := [], alts := [], laidByText := true, laidKinds := [.data, .sentinel, .pinned], laidTests := true, laidLooks := .later }
def FnSgOfPartsUptoCardSaid : Prop := Claim7.holds Tryd.pinned (.plain (OpenSpec.upto fnSgOfPartsSpec)) fnSgOfPartsUptoCard
end Rows
end Go.Proofs.YtgljkbhjbefikaaDoor
