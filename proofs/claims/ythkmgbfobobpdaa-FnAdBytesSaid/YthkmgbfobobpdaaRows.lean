/-
  No cell of these rows narrows 'for every input' (looked for: loops, veiled, ifaces, maps, wideKeys, modest, calm, conditions, laid).
  DERIVED. THE GIVEN ROWS OF THIS SEAT. 12 by the template 'for every input the law returns true; each argument reads behind the call as it read before'; 0 by the template 'total and deterministic' (their statements: YthkmgbfobobpdaaTotals.lean).
  GIVEN WITH THE SEED: the statements are not yours to turn. If you find one false, say at which input.
  Laid BY PROGRAM, IN A SANDBOX (cutbox-rows.mjs): the forced cells as the released guide's own fill.sh prints them over the translation 947a15835ed7105d… (all of the seat's roots in one cut). By AI agents, Wed Nov 11 2026. No macro, syntax, notation, axiom, sorry.
-/
import Derived.Test.YthkmgbfobobpdaaChecked
import GoSem.Claim
import GoSem.ClaimJoined
import GoSem.ClaimMapViews
import Derived.JoinedTies
import Derived.KernelRfl
namespace Go.Proofs.Ythkmgbfobobpdaa
/- THE CELL 'sum', in the pinned program and in every row, IS THE sha256 OF THE DUMP (.gsa) THAT YthkmgbfobobpdaaProg.lean LOADS. Nothing in Lean hashes anything: it is a label: what it is worth is what the hold of that sum in a sandbox is worth. -/
noncomputable def Try.pinned : Pinned := { name := "ythkmgbfobobpdaa", sum := "947a15835ed7105da6ea593de685fbe6573cdc5421d1daf94385261ce9e28352", checked := Try.checked }
namespace Rows
def none {H : Type} : Left H := { results := [], args := [] }

/-- 'laws.FnWrPad': WHATEVER THE INPUT: true; the input reads as it did. -/
def fnWrPadSpec : ChangeSpec := { name := "fnWrPad", fn := fun _ => fun
  | [d1, d2, d3] => { results := [.lit (.bool true)], args := [d1, d2, d3] }
  | _ => none }
def fnWrPadRow : OpenClaim := { program := "ythkmgbfobobpdaa", sum := "947a15835ed7105da6ea593de685fbe6573cdc5421d1daf94385261ce9e28352", func := "pub-barouche/laws.FnWrPad", spec := "fnWrPad", apart := false }
def FnWrPadSaid : Prop := fnWrPadRow.holds Try.pinned (OpenSpec.ofChange fnWrPadSpec)

/-- ITS FALSE NEIGHBOUR: 'it returns false'. Refute it at one input. -/
def fnWrPadWrong : ChangeSpec := { name := "fnWrPad", fn := fun _ => fun
  | [d1, d2, d3] => { results := [.lit (.bool false)], args := [d1, d2, d3] }
  | _ => none }
def FnWrPadWrongFalsely : Prop := fnWrPadRow.holds Try.pinned (OpenSpec.ofChange fnWrPadWrong)

/-- 'laws.FnMsType': WHATEVER THE INPUT: true; the input reads as it did. -/
def fnMsTypeSpec : ChangeSpec := { name := "fnMsType", fn := fun _ => fun
  | [d] => { results := [.lit (.bool true)], args := [d] }
  | _ => none }
def fnMsTypeRow : OpenClaim := { program := "ythkmgbfobobpdaa", sum := "947a15835ed7105da6ea593de685fbe6573cdc5421d1daf94385261ce9e28352", func := "pub-barouche/laws.FnMsType", spec := "fnMsType", apart := false }
def FnMsTypeSaid : Prop := fnMsTypeRow.holds Try.pinned (OpenSpec.ofChange fnMsTypeSpec)

/-- ITS FALSE NEIGHBOUR: 'it returns false'. Refute it at one input. -/
def fnMsTypeWrong : ChangeSpec := { name := "fnMsType", fn := fun _ => fun
  | [d] => { results := [.lit (.bool false)], args := [d] }
  | _ => none }
def FnMsTypeWrongFalsely : Prop := fnMsTypeRow.holds Try.pinned (OpenSpec.ofChange fnMsTypeWrong)

/-- 'laws.FnSgMatching': WHATEVER THE INPUT: true; the input reads as it did. -/
def fnSgMatchingSpec : ChangeSpec := { name := "fnSgMatching", fn := fun _ => fun
  | [d1, d2] => { results := [.lit (.bool true)], args := [d1, d2] }
  | _ => none }
def fnSgMatchingRow : OpenClaim := { program := "ythkmgbfobobpdaa", sum := "947a15835ed7105da6ea593de685fbe6573cdc5421d1daf94385261ce9e28352", func := "pub-barouche/laws.FnSgMatching", spec := "fnSgMatching", apart := false }
def FnSgMatchingSaid : Prop := fnSgMatchingRow.holds Try.pinned (OpenSpec.ofChange fnSgMatchingSpec)

/-- ITS FALSE NEIGHBOUR: 'it returns false'. Refute it at one input. -/
def fnSgMatchingWrong : ChangeSpec := { name := "fnSgMatching", fn := fun _ => fun
  | [d1, d2] => { results := [.lit (.bool false)], args := [d1, d2] }
  | _ => none }
def FnSgMatchingWrongFalsely : Prop := fnSgMatchingRow.holds Try.pinned (OpenSpec.ofChange fnSgMatchingWrong)

/-- 'laws.FnMsSerials': WHATEVER THE INPUT: true; the input reads as it did. -/
def fnMsSerialsSpec : ChangeSpec := { name := "fnMsSerials", fn := fun _ => fun
  | [d] => { results := [.lit (.bool true)], args := [d] }
  | _ => none }
def fnMsSerialsRow : OpenClaim := { program := "ythkmgbfobobpdaa", sum := "947a15835ed7105da6ea593de685fbe6573cdc5421d1daf94385261ce9e28352", func := "pub-barouche/laws.FnMsSerials", spec := "fnMsSerials", apart := false }
def FnMsSerialsSaid : Prop := fnMsSerialsRow.holds Try.pinned (OpenSpec.ofChange fnMsSerialsSpec)

/-- ITS FALSE NEIGHBOUR: 'it returns false'. Refute it at one input. -/
def fnMsSerialsWrong : ChangeSpec := { name := "fnMsSerials", fn := fun _ => fun
  | [d] => { results := [.lit (.bool false)], args := [d] }
  | _ => none }
def FnMsSerialsWrongFalsely : Prop := fnMsSerialsRow.holds Try.pinned (OpenSpec.ofChange fnMsSerialsWrong)

/-- 'laws.FnAdEvery': WHATEVER THE INPUT: true; the input reads as it did. -/
def fnAdEverySpec : ChangeSpec := { name := "fnAdEvery", fn := fun _ => fun
  | [d1, d2] => { results := [.lit (.bool true)], args := [d1, d2] }
  | _ => none }
def fnAdEveryRow : OpenClaim := { program := "ythkmgbfobobpdaa", sum := "947a15835ed7105da6ea593de685fbe6573cdc5421d1daf94385261ce9e28352", func := "pub-barouche/laws.FnAdEvery", spec := "fnAdEvery", apart := false }
def FnAdEverySaid : Prop := fnAdEveryRow.holds Try.pinned (OpenSpec.ofChange fnAdEverySpec)

/-- ITS FALSE NEIGHBOUR: 'it returns false'. Refute it at one input. -/
def fnAdEveryWrong : ChangeSpec := { name := "fnAdEvery", fn := fun _ => fun
  | [d1, d2] => { results := [.lit (.bool false)], args := [d1, d2] }
  | _ => none }
def FnAdEveryWrongFalsely : Prop := fnAdEveryRow.holds Try.pinned (OpenSpec.ofChange fnAdEveryWrong)

/-- 'laws.FnAdNeeds': WHATEVER THE INPUT: true; the input reads as it did. -/
def fnAdNeedsSpec : ChangeSpec := { name := "fnAdNeeds", fn := fun _ => fun
  | [d] => { results := [.lit (.bool true)], args := [d] }
  | _ => none }
def fnAdNeedsRow : OpenClaim := { program := "ythkmgbfobobpdaa", sum := "947a15835ed7105da6ea593de685fbe6573cdc5421d1daf94385261ce9e28352", func := "pub-barouche/laws.FnAdNeeds", spec := "fnAdNeeds", apart := false }
def FnAdNeedsSaid : Prop := fnAdNeedsRow.holds Try.pinned (OpenSpec.ofChange fnAdNeedsSpec)

/-- ITS FALSE NEIGHBOUR: 'it returns false'. Refute it at one input. -/
def fnAdNeedsWrong : ChangeSpec := { name := "fnAdNeeds", fn := fun _ => fun
  | [d] => { results := [.lit (.bool false)], args := [d] }
  | _ => none }
def FnAdNeedsWrongFalsely : Prop := fnAdNeedsRow.holds Try.pinned (OpenSpec.ofChange fnAdNeedsWrong)

/-- 'laws.FnAdBytes': WHATEVER THE INPUT: true; the input reads as it did. -/
def fnAdBytesSpec : ChangeSpec := { name := "fnAdBytes", fn := fun _ => fun
  | [d] => { results := [.lit (.bool true)], args := [d] }
  | _ => none }
def fnAdBytesRow : OpenClaim := { program := "ythkmgbfobobpdaa", sum := "947a15835ed7105da6ea593de685fbe6573cdc5421d1daf94385261ce9e28352", func := "pub-barouche/laws.FnAdBytes", spec := "fnAdBytes", apart := false }
def FnAdBytesSaid : Prop := fnAdBytesRow.holds Try.pinned (OpenSpec.ofChange fnAdBytesSpec)

/-- ITS FALSE NEIGHBOUR: 'it returns false'. Refute it at one input. -/
def fnAdBytesWrong : ChangeSpec := { name := "fnAdBytes", fn := fun _ => fun
  | [d] => { results := [.lit (.bool false)], args := [d] }
  | _ => none }
def FnAdBytesWrongFalsely : Prop := fnAdBytesRow.holds Try.pinned (OpenSpec.ofChange fnAdBytesWrong)

/-- 'laws.FnAdCut': WHATEVER THE INPUT: true; the input reads as it did. -/
def fnAdCutSpec : ChangeSpec := { name := "fnAdCut", fn := fun _ => fun
  | [d1, d2] => { results := [.lit (.bool true)], args := [d1, d2] }
  | _ => none }
def fnAdCutRow : OpenClaim := { program := "ythkmgbfobobpdaa", sum := "947a15835ed7105da6ea593de685fbe6573cdc5421d1daf94385261ce9e28352", func := "pub-barouche/laws.FnAdCut", spec := "fnAdCut", apart := false }
def FnAdCutSaid : Prop := fnAdCutRow.holds Try.pinned (OpenSpec.ofChange fnAdCutSpec)

/-- ITS FALSE NEIGHBOUR: 'it returns false'. Refute it at one input. -/
def fnAdCutWrong : ChangeSpec := { name := "fnAdCut", fn := fun _ => fun
  | [d1, d2] => { results := [.lit (.bool false)], args := [d1, d2] }
  | _ => none }
def FnAdCutWrongFalsely : Prop := fnAdCutRow.holds Try.pinned (OpenSpec.ofChange fnAdCutWrong)

/-- 'laws.FnNmInterface': WHATEVER THE INPUT: true; the input reads as it did. -/
def fnNmInterfaceSpec : ChangeSpec := { name := "fnNmInterface", fn := fun _ => fun
  | [d] => { results := [.lit (.bool true)], args := [d] }
  | _ => none }
def fnNmInterfaceRow : OpenClaim := { program := "ythkmgbfobobpdaa", sum := "947a15835ed7105da6ea593de685fbe6573cdc5421d1daf94385261ce9e28352", func := "pub-barouche/laws.FnNmInterface", spec := "fnNmInterface", apart := false }
def FnNmInterfaceSaid : Prop := fnNmInterfaceRow.holds Try.pinned (OpenSpec.ofChange fnNmInterfaceSpec)

/-- ITS FALSE NEIGHBOUR: 'it returns false'. Refute it at one input. -/
def fnNmInterfaceWrong : ChangeSpec := { name := "fnNmInterface", fn := fun _ => fun
  | [d] => { results := [.lit (.bool false)], args := [d] }
  | _ => none }
def FnNmInterfaceWrongFalsely : Prop := fnNmInterfaceRow.holds Try.pinned (OpenSpec.ofChange fnNmInterfaceWrong)

/-- 'laws.FnNmPaths': WHATEVER THE INPUT: true; the input reads as it did. -/
def fnNmPathsSpec : ChangeSpec := { name := "fnNmPaths", fn := fun _ => fun
  | [d1, d2] => { results := [.lit (.bool true)], args := [d1, d2] }
  | _ => none }
def fnNmPathsRow : OpenClaim := { program := "ythkmgbfobobpdaa", sum := "947a15835ed7105da6ea593de685fbe6573cdc5421d1daf94385261ce9e28352", func := "pub-barouche/laws.FnNmPaths", spec := "fnNmPaths", apart := false }
def FnNmPathsSaid : Prop := fnNmPathsRow.holds Try.pinned (OpenSpec.ofChange fnNmPathsSpec)

/-- ITS FALSE NEIGHBOUR: 'it returns false'. Refute it at one input. -/
def fnNmPathsWrong : ChangeSpec := { name := "fnNmPaths", fn := fun _ => fun
  | [d1, d2] => { results := [.lit (.bool false)], args := [d1, d2] }
  | _ => none }
def FnNmPathsWrongFalsely : Prop := fnNmPathsRow.holds Try.pinned (OpenSpec.ofChange fnNmPathsWrong)

/-- 'laws.FnNmJoin': WHATEVER THE INPUT: true; the input reads as it did. -/
def fnNmJoinSpec : ChangeSpec := { name := "fnNmJoin", fn := fun _ => fun
  | [d1, d2, d3] => { results := [.lit (.bool true)], args := [d1, d2, d3] }
  | _ => none }
def fnNmJoinRow : OpenClaim := { program := "ythkmgbfobobpdaa", sum := "947a15835ed7105da6ea593de685fbe6573cdc5421d1daf94385261ce9e28352", func := "pub-barouche/laws.FnNmJoin", spec := "fnNmJoin", apart := false }
def FnNmJoinSaid : Prop := fnNmJoinRow.holds Try.pinned (OpenSpec.ofChange fnNmJoinSpec)

/-- ITS FALSE NEIGHBOUR: 'it returns false'. Refute it at one input. -/
def fnNmJoinWrong : ChangeSpec := { name := "fnNmJoin", fn := fun _ => fun
  | [d1, d2, d3] => { results := [.lit (.bool false)], args := [d1, d2, d3] }
  | _ => none }
def FnNmJoinWrongFalsely : Prop := fnNmJoinRow.holds Try.pinned (OpenSpec.ofChange fnNmJoinWrong)

/-- 'laws.FnNmLengths': WHATEVER THE INPUT: true; the input reads as it did. -/
def fnNmLengthsSpec : ChangeSpec := { name := "fnNmLengths", fn := fun _ => fun
  | [d] => { results := [.lit (.bool true)], args := [d] }
  | _ => none }
def fnNmLengthsRow : OpenClaim := { program := "ythkmgbfobobpdaa", sum := "947a15835ed7105da6ea593de685fbe6573cdc5421d1daf94385261ce9e28352", func := "pub-barouche/laws.FnNmLengths", spec := "fnNmLengths", apart := false }
def FnNmLengthsSaid : Prop := fnNmLengthsRow.holds Try.pinned (OpenSpec.ofChange fnNmLengthsSpec)

/-- ITS FALSE NEIGHBOUR: 'it returns false'. Refute it at one input. -/
def fnNmLengthsWrong : ChangeSpec := { name := "fnNmLengths", fn := fun _ => fun
  | [d] => { results := [.lit (.bool false)], args := [d] }
  | _ => none }
def FnNmLengthsWrongFalsely : Prop := fnNmLengthsRow.holds Try.pinned (OpenSpec.ofChange fnNmLengthsWrong)

/- THE SECOND FORM. 'bulk': how many values and letters a reading holds, each counted each time it is reached (what is shared counts as often as it is met; a slice's spare places count too). A statement '..UptoSaid' is the law's where the arguments, and the package variables that the reading takes, are together of bulk at most 1048576: NARROWER than '..Said'. Prove '..Said' where nothing that the law and all that it calls make is longer than what came in: it says more and counts as full. Else prove '..UptoSaid'. A law counts once. -/
mutual
def uptoBulk {H : Type} : DataW H → Nat
  | .lit (.string bytes) => bytes.length + 1
  | .lit _ => 1
  | .nil => 1
  | .ptr d => uptoBulk d + 1
  | .slice elems spare => uptoBulkAll elems + uptoBulkAll spare + 1
  | .agg parts => uptoBulkAll parts + 1
  | .iface _ d => uptoBulk d + 1
  | .map entries => uptoBulkEntries entries + 1
  | .held _ => 1
def uptoBulkAll {H : Type} : List (DataW H) → Nat
  | [] => 0
  | d :: r => uptoBulk d + uptoBulkAll r
def uptoBulkEntries {H : Type} : List (Lit × DataW H) → Nat
  | [] => 0
  | x :: r => uptoBulkEntry x + uptoBulkEntries r
def uptoBulkEntry {H : Type} : Lit × DataW H → Nat
  | (.string bytes, d) => bytes.length + uptoBulk d + 1
  | (_, d) => uptoBulk d + 1
 end
def uptoSmall : (H : Type) → List (DataW H) → Bool := fun _ ds => decide (uptoBulkAll ds ≤ 1048576)
def OpenSpec.upto (s : _root_.Go.ChangeSpec) : _root_.Go.OpenSpec := { _root_.Go.OpenSpec.ofChange s with cond := some uptoSmall }

/-- 'laws.FnWrPad', WHERE WHAT IT READS IS OF BULK AT MOST 1048576: true; the input reads as it did. -/
def fnWrPadUptoRow : OpenClaim := { program := "ythkmgbfobobpdaa", sum := "947a15835ed7105da6ea593de685fbe6573cdc5421d1daf94385261ce9e28352", func := "pub-barouche/laws.FnWrPad", spec := "fnWrPad", apart := false, narrowed := true }
def FnWrPadUptoSaid : Prop := fnWrPadUptoRow.holds Try.pinned (OpenSpec.upto fnWrPadSpec)

/-- 'laws.FnMsType', WHERE WHAT IT READS IS OF BULK AT MOST 1048576: true; the input reads as it did. -/
def fnMsTypeUptoRow : OpenClaim := { program := "ythkmgbfobobpdaa", sum := "947a15835ed7105da6ea593de685fbe6573cdc5421d1daf94385261ce9e28352", func := "pub-barouche/laws.FnMsType", spec := "fnMsType", apart := false, narrowed := true }
def FnMsTypeUptoSaid : Prop := fnMsTypeUptoRow.holds Try.pinned (OpenSpec.upto fnMsTypeSpec)

/-- 'laws.FnSgMatching', WHERE WHAT IT READS IS OF BULK AT MOST 1048576: true; the input reads as it did. -/
def fnSgMatchingUptoRow : OpenClaim := { program := "ythkmgbfobobpdaa", sum := "947a15835ed7105da6ea593de685fbe6573cdc5421d1daf94385261ce9e28352", func := "pub-barouche/laws.FnSgMatching", spec := "fnSgMatching", apart := false, narrowed := true }
def FnSgMatchingUptoSaid : Prop := fnSgMatchingUptoRow.holds Try.pinned (OpenSpec.upto fnSgMatchingSpec)

/-- 'laws.FnMsSerials', WHERE WHAT IT READS IS OF BULK AT MOST 1048576: true; the input reads as it did. -/
def fnMsSerialsUptoRow : OpenClaim := { program := "ythkmgbfobobpdaa", sum := "947a15835ed7105da6ea593de685fbe6573cdc5421d1daf94385261ce9e28352", func := "pub-barouche/laws.FnMsSerials", spec := "fnMsSerials", apart := false, narrowed := true }
def FnMsSerialsUptoSaid : Prop := fnMsSerialsUptoRow.holds Try.pinned (OpenSpec.upto fnMsSerialsSpec)

/-- 'laws.FnAdEvery', WHERE WHAT IT READS IS OF BULK AT MOST 1048576: true; the input reads as it did. -/
def fnAdEveryUptoRow : OpenClaim := { program := "ythkmgbfobobpdaa", sum := "947a15835ed7105da6ea593de685fbe6573cdc5421d1daf94385261ce9e28352", func := "pub-barouche/laws.FnAdEvery", spec := "fnAdEvery", apart := false, narrowed := true }
def FnAdEveryUptoSaid : Prop := fnAdEveryUptoRow.holds Try.pinned (OpenSpec.upto fnAdEverySpec)

/-- 'laws.FnAdNeeds', WHERE WHAT IT READS IS OF BULK AT MOST 1048576: true; the input reads as it did. -/
def fnAdNeedsUptoRow : OpenClaim := { program := "ythkmgbfobobpdaa", sum := "947a15835ed7105da6ea593de685fbe6573cdc5421d1daf94385261ce9e28352", func := "pub-barouche/laws.FnAdNeeds", spec := "fnAdNeeds", apart := false, narrowed := true }
def FnAdNeedsUptoSaid : Prop := fnAdNeedsUptoRow.holds Try.pinned (OpenSpec.upto fnAdNeedsSpec)

/-- 'laws.FnAdBytes', WHERE WHAT IT READS IS OF BULK AT MOST 1048576: true; the input reads as it did. -/
def fnAdBytesUptoRow : OpenClaim := { program := "ythkmgbfobobpdaa", sum := "947a15835ed7105da6ea593de685fbe6573cdc5421d1daf94385261ce9e28352", func := "pub-barouche/laws.FnAdBytes", spec := "fnAdBytes", apart := false, narrowed := true }
def FnAdBytesUptoSaid : Prop := fnAdBytesUptoRow.holds Try.pinned (OpenSpec.upto fnAdBytesSpec)

/-- 'laws.FnAdCut', WHERE WHAT IT READS IS OF BULK AT MOST 1048576: true; the input reads as it did. -/
def fnAdCutUptoRow : OpenClaim := { program := "ythkmgbfobobpdaa", sum := "947a15835ed7105da6ea593de685fbe6573cdc5421d1daf94385261ce9e28352", func := "pub-barouche/laws.FnAdCut", spec := "fnAdCut", apart := false, narrowed := true }
def FnAdCutUptoSaid : Prop := fnAdCutUptoRow.holds Try.pinned (OpenSpec.upto fnAdCutSpec)

/-- 'laws.FnNmInterface', WHERE WHAT IT READS IS OF BULK AT MOST 1048576: true; the input reads as it did. -/
def fnNmInterfaceUptoRow : OpenClaim := { program := "ythkmgbfobobpdaa", sum := "947a15835ed7105da6ea593de685fbe6573cdc5421d1daf94385261ce9e28352", func := "pub-barouche/laws.FnNmInterface", spec := "fnNmInterface", apart := false, narrowed := true }
def FnNmInterfaceUptoSaid : Prop := fnNmInterfaceUptoRow.holds Try.pinned (OpenSpec.upto fnNmInterfaceSpec)

/-- 'laws.FnNmPaths', WHERE WHAT IT READS IS OF BULK AT MOST 1048576: true; the input reads as it did. -/
def fnNmPathsUptoRow : OpenClaim := { program := "ythkmgbfobobpdaa", sum := "947a15835ed7105da6ea593de685fbe6573cdc5421d1daf94385261ce9e28352", func := "pub-barouche/laws.FnNmPaths", spec := "fnNmPaths", apart := false, narrowed := true }
def FnNmPathsUptoSaid : Prop := fnNmPathsUptoRow.holds Try.pinned (OpenSpec.upto fnNmPathsSpec)

/-- 'laws.FnNmJoin', WHERE WHAT IT READS IS OF BULK AT MOST 1048576: true; the input reads as it did. -/
def fnNmJoinUptoRow : OpenClaim := { program := "ythkmgbfobobpdaa", sum := "947a15835ed7105da6ea593de685fbe6573cdc5421d1daf94385261ce9e28352", func := "pub-barouche/laws.FnNmJoin", spec := "fnNmJoin", apart := false, narrowed := true }
def FnNmJoinUptoSaid : Prop := fnNmJoinUptoRow.holds Try.pinned (OpenSpec.upto fnNmJoinSpec)

/-- 'laws.FnNmLengths', WHERE WHAT IT READS IS OF BULK AT MOST 1048576: true; the input reads as it did. -/
def fnNmLengthsUptoRow : OpenClaim := { program := "ythkmgbfobobpdaa", sum := "947a15835ed7105da6ea593de685fbe6573cdc5421d1daf94385261ce9e28352", func := "pub-barouche/laws.FnNmLengths", spec := "fnNmLengths", apart := false, narrowed := true }
def FnNmLengthsUptoSaid : Prop := fnNmLengthsUptoRow.holds Try.pinned (OpenSpec.upto fnNmLengthsSpec)

end Rows
end Go.Proofs.Ythkmgbfobobpdaa
