-- Written by a program of this session (wip/tools/myprint.py) for this claim.
import Derived.Test.YtgljkbhjbefikaaDoorProg
import Derived.Below
import Derived.Deep.Draws
import Derived.Deep.AppendLies
import Derived.Maps.AppendAt
import Derived.OwnWalk
import Derived.Laws.BytesArg
import Derived.Laws.MakeOwn
import Derived.Laws.OwnMore
import Derived.Deep.OwnRows
import Derived.Tactics
import Derived.Lib.ConvBytes
import Derived.Laws.Slices
import Derived.WalkKit
import Derived.KernelRfl
import Derived.RowKit3
import Derived.Deep.LoopGhost
import Derived.Deep.QuietTactic
import Derived.BigQuiet
import Derived.WideLaws
import Derived.Deep.DeepCutAuto
import Derived.Deep.CutBlock
import Derived.Deep.RegionHeld3
import Derived.Laws.Rows
import Derived.Lib.AppendStr
import Derived.ArgAppend
import Derived.Laws.IdiomCopy
import Derived.OrdersHeld
import Derived.Laws.BitsLemmas
import Derived.RowKit
import Derived.Test.YtgljkbhjbefikaaDoorGvUq
import Derived.Test.YtgljkbhjbefikaaDoorWWords
import Derived.Test.YtgljkbhjbefikaaDoorWLast
import Derived.Test.YtgljkbhjbefikaaDoorWTab
import Derived.Test.YtgljkbhjbefikaaDoorWFour
import Derived.Test.YtgljkbhjbefikaaDoorWQPut
import Derived.Test.YtgljkbhjbefikaaDoorWApart
import Derived.Test.YtgljkbhjbefikaaDoorWArr
import Derived.Test.YtgljkbhjbefikaaDoorWZeros
import Derived.Test.YtgljkbhjbefikaaDoorWFoot
import Derived.Test.YtgljkbhjbefikaaDoorWKept
import Derived.Test.YtgljkbhjbefikaaDoorWShare
import Derived.Test.YtgljkbhjbefikaaDoorWN
import Derived.Test.YtgljkbhjbefikaaDoorWFootNe
import Derived.Test.YtgljkbhjbefikaaDoorWAt
import Derived.Test.YtgljkbhjbefikaaDoorWEqStruct
import Derived.Test.YtgljkbhjbefikaaDoorWRepsOne
import Derived.Test.YtgljkbhjbefikaaDoorWInv
import Derived.Test.YtgljkbhjbefikaaDoorWInvWords
import Derived.Test.YtgljkbhjbefikaaDoorWGuard
import Derived.Test.YtgljkbhjbefikaaDoorWNEv
import Derived.Test.YtgljkbhjbefikaaDoorWMore
namespace Go.Proofs.YtgljkbhjbefikaaDoor.PUq
open Go.RowKit Go.Proofs.YtgljkbhjbefikaaDoorW.PrintWords Go.Proofs.YtgljkbhjbefikaaDoorW.PrintLast Go.Proofs.YtgljkbhjbefikaaDoorW.PrintMore
attribute [local go_sem] max2_int min2_int max_two min_two max_three min_three max_four min_four   -- for this text's walks alone
set_option linter.unusedVariables false
set_option linter.unusedSimpArgs false



def errW : Option Int → Value
  | none => .nilIface
  | some c => .iface 0 (.int .i64 c)
theorem errW_none : errW none = .nilIface := rfl
theorem errW_some (c : Int) : errW (some c) = .iface 0 (.int .i64 c) := rfl

theorem info5 : (Tryd.prog.info? 5).map (fun i => (i.zero, i.size, i.bytes)) = some (some (.int .u8 0), 1, 1) := by kernel_rfl
-- the values' own types

end Go.Proofs.YtgljkbhjbefikaaDoor.PUq
