-- Written by a program of this session (wip/tools/myprint.py) for this claim.
import Derived.Test.YthkmgbfobobpdaaProg
import Derived.Below
import Derived.Deep.Draws
import Derived.Deep.AppendLies
import Derived.Maps.AppendAt
import Derived.OwnWalk
import Derived.Laws.BytesArg
import Derived.Laws.MakeOwn
import Derived.Laws.OwnMore
import Derived.Deep.OwnRows
import Derived.Tactics
import Derived.Lib.ConvBytes
import Derived.Laws.Slices
import Derived.WalkKit
import Derived.KernelRfl
import Derived.RowKit3
import Derived.Deep.LoopGhost
import Derived.Deep.QuietTactic
import Derived.BigQuiet
import Derived.WideLaws
import Derived.Deep.DeepCutAuto
import Derived.Deep.CutBlock
import Derived.Deep.RegionHeld3
import Derived.Laws.Rows
import Derived.Lib.AppendStr
import Derived.ArgAppend
import Derived.Laws.IdiomCopy
import Derived.OrdersHeld
import Derived.Laws.BitsLemmas
import Derived.RowKit
import Derived.Test.YthkmgbfobobpdaaGvAd
import Derived.Test.YthkmgbfobobpdaaGvEsc
import Derived.Test.YthkmgbfobobpdaaWWords
import Derived.Test.YthkmgbfobobpdaaWLast
import Derived.Test.YthkmgbfobobpdaaWTab
import Derived.Test.YthkmgbfobobpdaaWFour
import Derived.Test.YthkmgbfobobpdaaWQPut
import Derived.Test.YthkmgbfobobpdaaWApart
import Derived.Test.YthkmgbfobobpdaaWArr
import Derived.Test.YthkmgbfobobpdaaWZeros
import Derived.Test.YthkmgbfobobpdaaWFoot
import Derived.Test.YthkmgbfobobpdaaWKept
import Derived.Test.YthkmgbfobobpdaaWShare
import Derived.Test.YthkmgbfobobpdaaWN
import Derived.Test.YthkmgbfobobpdaaWFootNe
import Derived.Test.YthkmgbfobobpdaaWAt
import Derived.Test.YthkmgbfobobpdaaWEqStruct
import Derived.Test.YthkmgbfobobpdaaWRepsOne
import Derived.Test.YthkmgbfobobpdaaWInv
import Derived.Test.YthkmgbfobobpdaaWInvWords
import Derived.Test.YthkmgbfobobpdaaWGuard
import Derived.Test.YthkmgbfobobpdaaWNEv
import Derived.Test.YthkmgbfobobpdaaWMore
namespace Go.Proofs.Ythkmgbfobobpdaa.PAe2
open Go.RowKit Go.Proofs.YthkmgbfobobpdaaW.PrintWords Go.Proofs.YthkmgbfobobpdaaW.PrintLast Go.Proofs.YthkmgbfobobpdaaW.PrintMore
attribute [local go_sem] max2_int min2_int max_two min_two max_three min_three max_four min_four   -- for this text's walks alone
set_option linter.unusedVariables false
set_option linter.unusedSimpArgs false



def errW : Option Int → Value
  | none => .nilIface
  | some c => .iface 0 (.int .i64 c)
theorem errW_none : errW none = .nilIface := rfl
theorem errW_some (c : Int) : errW (some c) = .iface 0 (.int .i64 c) := rfl

theorem info5 : (Try.prog.info? 5).map (fun i => (i.zero, i.size, i.bytes)) = some (some (.int .u8 0), 1, 1) := by kernel_rfl
-- the values' own types

end Go.Proofs.Ythkmgbfobobpdaa.PAe2
