/-
  No cell of these rows narrows 'for every input' (looked for: loops, veiled, ifaces, maps, wideKeys, modest, calm, conditions, laid).
  DERIVED. THE GIVEN ROWS OF THIS SEAT. 6 by the template 'for every input the law returns true; each argument reads behind the call as it read before'; 0 by the template 'total and deterministic' (their statements: YthkblpbabcibcaaTotals.lean).
  GIVEN WITH THE SEED: the statements are not yours to turn. If you find one false, say at which input.
  Laid BY PROGRAM, IN A SANDBOX (cutbox-rows.mjs): the forced cells as the released guide's own fill.sh prints them over the translation d7b1d99bc8957d86… (all of the seat's roots in one cut). By AI agents, Wed Nov 11 2026. No macro, syntax, notation, axiom, sorry.
-/
import Derived.Test.YthkblpbabcibcaaChecked
import GoSem.Claim
import GoSem.ClaimJoined
import GoSem.ClaimMapViews
import Derived.JoinedTies
import Derived.KernelRfl
namespace Go.Proofs.Ythkblpbabcibcaa
/- THE CELL 'sum', in the pinned program and in every row, IS THE sha256 OF THE DUMP (.gsa) THAT YthkblpbabcibcaaProg.lean LOADS. Nothing in Lean hashes anything: it is a label: what it is worth is what the hold of that sum in a sandbox is worth. -/
noncomputable def Try.pinned : Pinned := { name := "ythkblpbabcibcaa", sum := "d7b1d99bc8957d86e385d2b1d6f07aca4acf6137e09943a1ce863de5c9147afe", checked := Try.checked }
namespace Rows
def none {H : Type} : Left H := { results := [], args := [] }

/-- 'laws.FnSgBegin': WHATEVER THE INPUT: true; the input reads as it did. -/
def fnSgBeginSpec : ChangeSpec := { name := "fnSgBegin", fn := fun _ => fun
  | [d1, d2, d3, d4] => { results := [.lit (.bool true)], args := [d1, d2, d3, d4] }
  | _ => none }
def fnSgBeginRow : OpenClaim := { program := "ythkblpbabcibcaa", sum := "d7b1d99bc8957d86e385d2b1d6f07aca4acf6137e09943a1ce863de5c9147afe", func := "pub-barouche/laws.FnSgBegin", spec := "fnSgBegin", recurses := true, apart := false }
def FnSgBeginSaid : Prop := fnSgBeginRow.holds Try.pinned (OpenSpec.ofChange fnSgBeginSpec)

/-- ITS FALSE NEIGHBOUR: 'it returns false'. Refute it at one input. -/
def fnSgBeginWrong : ChangeSpec := { name := "fnSgBegin", fn := fun _ => fun
  | [d1, d2, d3, d4] => { results := [.lit (.bool false)], args := [d1, d2, d3, d4] }
  | _ => none }
def FnSgBeginWrongFalsely : Prop := fnSgBeginRow.holds Try.pinned (OpenSpec.ofChange fnSgBeginWrong)

/-- 'laws.FnSgEmpty': WHATEVER THE INPUT: true; the input reads as it did. -/
def fnSgEmptySpec : ChangeSpec := { name := "fnSgEmpty", fn := fun _ => fun
  | [d] => { results := [.lit (.bool true)], args := [d] }
  | _ => none }
def fnSgEmptyRow : OpenClaim := { program := "ythkblpbabcibcaa", sum := "d7b1d99bc8957d86e385d2b1d6f07aca4acf6137e09943a1ce863de5c9147afe", func := "pub-barouche/laws.FnSgEmpty", spec := "fnSgEmpty", recurses := true, apart := false }
def FnSgEmptySaid : Prop := fnSgEmptyRow.holds Try.pinned (OpenSpec.ofChange fnSgEmptySpec)

/-- ITS FALSE NEIGHBOUR: 'it returns false'. Refute it at one input. -/
def fnSgEmptyWrong : ChangeSpec := { name := "fnSgEmpty", fn := fun _ => fun
  | [d] => { results := [.lit (.bool false)], args := [d] }
  | _ => none }
def FnSgEmptyWrongFalsely : Prop := fnSgEmptyRow.holds Try.pinned (OpenSpec.ofChange fnSgEmptyWrong)

/-- 'laws.FnSgLength': WHATEVER THE INPUT: true; the input reads as it did. -/
def fnSgLengthSpec : ChangeSpec := { name := "fnSgLength", fn := fun _ => fun
  | [d1, d2] => { results := [.lit (.bool true)], args := [d1, d2] }
  | _ => none }
def fnSgLengthRow : OpenClaim := { program := "ythkblpbabcibcaa", sum := "d7b1d99bc8957d86e385d2b1d6f07aca4acf6137e09943a1ce863de5c9147afe", func := "pub-barouche/laws.FnSgLength", spec := "fnSgLength", recurses := true, apart := false }
def FnSgLengthSaid : Prop := fnSgLengthRow.holds Try.pinned (OpenSpec.ofChange fnSgLengthSpec)

/-- ITS FALSE NEIGHBOUR: 'it returns false'. Refute it at one input. -/
def fnSgLengthWrong : ChangeSpec := { name := "fnSgLength", fn := fun _ => fun
  | [d1, d2] => { results := [.lit (.bool false)], args := [d1, d2] }
  | _ => none }
def FnSgLengthWrongFalsely : Prop := fnSgLengthRow.holds Try.pinned (OpenSpec.ofChange fnSgLengthWrong)

/-- 'laws.FnSgNames': WHATEVER THE INPUT: true; the input reads as it did. -/
def fnSgNamesSpec : ChangeSpec := { name := "fnSgNames", fn := fun _ => fun
  | [d1, d2, d3] => { results := [.lit (.bool true)], args := [d1, d2, d3] }
  | _ => none }
def fnSgNamesRow : OpenClaim := { program := "ythkblpbabcibcaa", sum := "d7b1d99bc8957d86e385d2b1d6f07aca4acf6137e09943a1ce863de5c9147afe", func := "pub-barouche/laws.FnSgNames", spec := "fnSgNames", recurses := true, apart := false }
def FnSgNamesSaid : Prop := fnSgNamesRow.holds Try.pinned (OpenSpec.ofChange fnSgNamesSpec)

/-- ITS FALSE NEIGHBOUR: 'it returns false'. Refute it at one input. -/
def fnSgNamesWrong : ChangeSpec := { name := "fnSgNames", fn := fun _ => fun
  | [d1, d2, d3] => { results := [.lit (.bool false)], args := [d1, d2, d3] }
  | _ => none }
def FnSgNamesWrongFalsely : Prop := fnSgNamesRow.holds Try.pinned (OpenSpec.ofChange fnSgNamesWrong)

/-- 'laws.FnSgExchange': WHATEVER THE INPUT: true; the input reads as it did. -/
def fnSgExchangeSpec : ChangeSpec := { name := "fnSgExchange", fn := fun _ => fun
  | [d1, d2, d3] => { results := [.lit (.bool true)], args := [d1, d2, d3] }
  | _ => none }
def fnSgExchangeRow : OpenClaim := { program := "ythkblpbabcibcaa", sum := "d7b1d99bc8957d86e385d2b1d6f07aca4acf6137e09943a1ce863de5c9147afe", func := "pub-barouche/laws.FnSgExchange", spec := "fnSgExchange", recurses := true, apart := false }
def FnSgExchangeSaid : Prop := fnSgExchangeRow.holds Try.pinned (OpenSpec.ofChange fnSgExchangeSpec)

/-- ITS FALSE NEIGHBOUR: 'it returns false'. Refute it at one input. -/
def fnSgExchangeWrong : ChangeSpec := { name := "fnSgExchange", fn := fun _ => fun
  | [d1, d2, d3] => { results := [.lit (.bool false)], args := [d1, d2, d3] }
  | _ => none }
def FnSgExchangeWrongFalsely : Prop := fnSgExchangeRow.holds Try.pinned (OpenSpec.ofChange fnSgExchangeWrong)

/-- 'laws.FnSgWithin': WHATEVER THE INPUT: true; the input reads as it did. -/
def fnSgWithinSpec : ChangeSpec := { name := "fnSgWithin", fn := fun _ => fun
  | [d1, d2, d3] => { results := [.lit (.bool true)], args := [d1, d2, d3] }
  | _ => none }
def fnSgWithinRow : OpenClaim := { program := "ythkblpbabcibcaa", sum := "d7b1d99bc8957d86e385d2b1d6f07aca4acf6137e09943a1ce863de5c9147afe", func := "pub-barouche/laws.FnSgWithin", spec := "fnSgWithin", recurses := true, apart := false }
def FnSgWithinSaid : Prop := fnSgWithinRow.holds Try.pinned (OpenSpec.ofChange fnSgWithinSpec)

/-- ITS FALSE NEIGHBOUR: 'it returns false'. Refute it at one input. -/
def fnSgWithinWrong : ChangeSpec := { name := "fnSgWithin", fn := fun _ => fun
  | [d1, d2, d3] => { results := [.lit (.bool false)], args := [d1, d2, d3] }
  | _ => none }
def FnSgWithinWrongFalsely : Prop := fnSgWithinRow.holds Try.pinned (OpenSpec.ofChange fnSgWithinWrong)

/- THE SECOND FORM. 'bulk': how many values and letters a reading holds, each counted each time it is reached (what is shared counts as often as it is met; a slice's spare places count too). A statement '..UptoSaid' is the law's where the arguments, and the package variables that the reading takes, are together of bulk at most 1048576: NARROWER than '..Said'. Prove '..Said' where nothing that the law and all that it calls make is longer than what came in: it says more and counts as full. Else prove '..UptoSaid'. A law counts once. -/
mutual
def uptoBulk {H : Type} : DataW H → Nat
  | .lit (.string bytes) => bytes.length + 1
  | .lit _ => 1
  | .nil => 1
  | .ptr d => uptoBulk d + 1
  | .slice elems spare => uptoBulkAll elems + uptoBulkAll spare + 1
  | .agg parts => uptoBulkAll parts + 1
  | .iface _ d => uptoBulk d + 1
  | .map entries => uptoBulkEntries entries + 1
  | .held _ => 1
def uptoBulkAll {H : Type} : List (DataW H) → Nat
  | [] => 0
  | d :: r => uptoBulk d + uptoBulkAll r
def uptoBulkEntries {H : Type} : List (Lit × DataW H) → Nat
  | [] => 0
  | x :: r => uptoBulkEntry x + uptoBulkEntries r
def uptoBulkEntry {H : Type} : Lit × DataW H → Nat
  | (.string bytes, d) => bytes.length + uptoBulk d + 1
  | (_, d) => uptoBulk d + 1
 end
def uptoSmall : (H : Type) → List (DataW H) → Bool := fun _ ds => decide (uptoBulkAll ds ≤ 1048576)
def OpenSpec.upto (s : _root_.Go.ChangeSpec) : _root_.Go.OpenSpec := { _root_.Go.OpenSpec.ofChange s with cond := some uptoSmall }

/-- 'laws.FnSgBegin', WHERE WHAT IT READS IS OF BULK AT MOST 1048576: true; the input reads as it did. -/
def fnSgBeginUptoRow : OpenClaim := { program := "ythkblpbabcibcaa", sum := "d7b1d99bc8957d86e385d2b1d6f07aca4acf6137e09943a1ce863de5c9147afe", func := "pub-barouche/laws.FnSgBegin", spec := "fnSgBegin", recurses := true, apart := false, narrowed := true }
def FnSgBeginUptoSaid : Prop := fnSgBeginUptoRow.holds Try.pinned (OpenSpec.upto fnSgBeginSpec)

/-- 'laws.FnSgEmpty', WHERE WHAT IT READS IS OF BULK AT MOST 1048576: true; the input reads as it did. -/
def fnSgEmptyUptoRow : OpenClaim := { program := "ythkblpbabcibcaa", sum := "d7b1d99bc8957d86e385d2b1d6f07aca4acf6137e09943a1ce863de5c9147afe", func := "pub-barouche/laws.FnSgEmpty", spec := "fnSgEmpty", recurses := true, apart := false, narrowed := true }
def FnSgEmptyUptoSaid : Prop := fnSgEmptyUptoRow.holds Try.pinned (OpenSpec.upto fnSgEmptySpec)

/-- 'laws.FnSgLength', WHERE WHAT IT READS IS OF BULK AT MOST 1048576: true; the input reads as it did. -/
def fnSgLengthUptoRow : OpenClaim := { program := "ythkblpbabcibcaa", sum := "d7b1d99bc8957d86e385d2b1d6f07aca4acf6137e09943a1ce863de5c9147afe", func := "pub-barouche/laws.FnSgLength", spec := "fnSgLength", recurses := true, apart := false, narrowed := true }
def FnSgLengthUptoSaid : Prop := fnSgLengthUptoRow.holds Try.pinned (OpenSpec.upto fnSgLengthSpec)

/-- 'laws.FnSgNames', WHERE WHAT IT READS IS OF BULK AT MOST 1048576: true; the input reads as it did. -/
def fnSgNamesUptoRow : OpenClaim := { program := "ythkblpbabcibcaa", sum := "d7b1d99bc8957d86e385d2b1d6f07aca4acf6137e09943a1ce863de5c9147afe", func := "pub-barouche/laws.FnSgNames", spec := "fnSgNames", recurses := true, apart := false, narrowed := true }
def FnSgNamesUptoSaid : Prop := fnSgNamesUptoRow.holds Try.pinned (OpenSpec.upto fnSgNamesSpec)

/-- 'laws.FnSgExchange', WHERE WHAT IT READS IS OF BULK AT MOST 1048576: true; the input reads as it did. -/
def fnSgExchangeUptoRow : OpenClaim := { program := "ythkblpbabcibcaa", sum := "d7b1d99bc8957d86e385d2b1d6f07aca4acf6137e09943a1ce863de5c9147afe", func := "pub-barouche/laws.FnSgExchange", spec := "fnSgExchange", recurses := true, apart := false, narrowed := true }
def FnSgExchangeUptoSaid : Prop := fnSgExchangeUptoRow.holds Try.pinned (OpenSpec.upto fnSgExchangeSpec)

/-- 'laws.FnSgWithin', WHERE WHAT IT READS IS OF BULK AT MOST 1048576: true; the input reads as it did. -/
def fnSgWithinUptoRow : OpenClaim := { program := "ythkblpbabcibcaa", sum := "d7b1d99bc8957d86e385d2b1d6f07aca4acf6137e09943a1ce863de5c9147afe", func := "pub-barouche/laws.FnSgWithin", spec := "fnSgWithin", recurses := true, apart := false, narrowed := true }
def FnSgWithinUptoSaid : Prop := fnSgWithinUptoRow.holds Try.pinned (OpenSpec.upto fnSgWithinSpec)

end Rows
end Go.Proofs.Ythkblpbabcibcaa
