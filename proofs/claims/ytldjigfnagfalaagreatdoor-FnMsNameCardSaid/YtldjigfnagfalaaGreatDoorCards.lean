/-
  DERIVED. GIVEN WITH THE SEED: THE CARDS: each row of YtldjigfnagfalaaGreatDoorRows.lean that lists a variable, with what it lists TIED to the program's text (the seventh form; the later family's looks); each row that meets fmt, with fmt's text TOLD by the authors' own Lean function (tested against real Go, not proved from fmt's source: count such statements apart). THE CARD IS WHAT COUNTS. Prove the row's statement (the work); the ties are given (YtldjigfnagfalaaGreatDoorTie.lean); close each card by the builder's one call (the guide's Derived/Test/ToyasCard.lean, 'card_holds'). Laid BY PROGRAM, IN A SANDBOX (cutbox-door.mjs). By AI agents, Wed Nov 11 2026. No macro, syntax, notation, axiom, sorry.
-/
import Derived.Test.YtldjigfnagfalaaGreatDoorRows
import GoSem.ClaimSeven
namespace Go.Proofs.YtldjigfnagfalaaGreatDoor
namespace Rows

/-- THE TIED CARD OF 'laws.FnWrInsert'. -/
def fnWrInsertCard : Claim7 := { stood := { row := fnWrInsertRow, standIns := [], harness := (true, "e7f6aa0c9fc56b45ef055af1033937b8483039bb240df6a4e50090c6164f1f65"), looks := true }, kinds := [], alts := [], laidByText := true, laidKinds := [.data, .sentinel, .sentinel, .pinned], laidTests := true, laidLooks := .later }
def FnWrInsertCardSaid : Prop := Claim7.holds Tryz.pinned (.plain (OpenSpec.ofChange fnWrInsertSpec)) fnWrInsertCard

/-- THE TIED CARD OF 'laws.FnMsName'. -/
def fnMsNameCard : Claim7 := { stood := { row := fnMsNameRow, standIns := [], harness := (true, "e7f6aa0c9fc56b45ef055af1033937b8483039bb240df6a4e50090c6164f1f65"), looks := true }, kinds := [], alts := [], laidByText := true, laidKinds := [.data, .sentinel, .sentinel, .pinned], laidTests := true, laidLooks := .later }
def FnMsNameCardSaid : Prop := Claim7.holds Tryz.pinned (.plain (OpenSpec.ofChange fnMsNameSpec)) fnMsNameCard

/-- THE SECOND FORM's CARD OF 'laws.FnWrInsert'. -/
def fnWrInsertUptoCard : Claim7 := { stood := { row := fnWrInsertUptoRow, standIns := [], harness := (true, "e7f6aa0c9fc56b45ef055af1033937b8483039bb240df6a4e50090c6164f1f65"), looks := true }, kinds := [], alts := [], laidByText := true, laidKinds := [.data, .sentinel, .sentinel, .pinned], laidTests := true, laidLooks := .later }
def FnWrInsertUptoCardSaid : Prop := Claim7.holds Tryz.pinned (.plain (OpenSpec.upto fnWrInsertSpec)) fnWrInsertUptoCard

/-- THE SECOND FORM's CARD OF 'laws.FnMsName'. -/
def fnMsNameUptoCard : Claim7 := { stood := { row := fnMsNameUptoRow, standIns := [], harness := (true, "e7f6aa0c9fc56b45ef055af1033937b8483039bb240df6a4e50090c6164f1f65"), looks := true }, kinds := [], alts := [], laidByText := true, laidKinds := [.data, .sentinel, .sentinel, .pinned], laidTests := true, laidLooks := .later }
def FnMsNameUptoCardSaid : Prop := Claim7.holds Tryz.pinned (.plain (OpenSpec.upto fnMsNameSpec)) fnMsNameUptoCard
end Rows
end Go.Proofs.YtldjigfnagfalaaGreatDoor
