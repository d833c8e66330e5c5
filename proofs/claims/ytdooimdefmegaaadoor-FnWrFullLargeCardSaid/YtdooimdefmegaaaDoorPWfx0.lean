-- Written by a program of this session (wip/tools/myprint.py) for this claim.
import Derived.Test.YtdooimdefmegaaaDoorProg
import Derived.Below
import Derived.Deep.Draws
import Derived.Deep.AppendLies
import Derived.Maps.AppendAt
import Derived.OwnWalk
import Derived.Laws.BytesArg
import Derived.Laws.MakeOwn
import Derived.Laws.OwnMore
import Derived.Deep.OwnRows
import Derived.Tactics
import Derived.Lib.ConvBytes
import Derived.Laws.Slices
import Derived.WalkKit
import Derived.KernelRfl
import Derived.RowKit3
import Derived.Deep.LoopGhost
import Derived.Deep.QuietTactic
import Derived.BigQuiet
import Derived.WideLaws
import Derived.Deep.DeepCutAuto
import Derived.Deep.CutBlock
import Derived.Deep.RegionHeld3
import Derived.Laws.Rows
import Derived.Lib.AppendStr
import Derived.ArgAppend
import Derived.Laws.IdiomCopy
import Derived.OrdersHeld
import Derived.Laws.BitsLemmas
import Derived.RowKit
import Derived.Test.YtdooimdefmegaaaDoorGvWf
import Derived.Test.YtdooimdefmegaaaDoorWWords
import Derived.Test.YtdooimdefmegaaaDoorWLast
import Derived.Test.YtdooimdefmegaaaDoorWTab
import Derived.Test.YtdooimdefmegaaaDoorWFour
import Derived.Test.YtdooimdefmegaaaDoorWQPut
import Derived.Test.YtdooimdefmegaaaDoorWApart
import Derived.Test.YtdooimdefmegaaaDoorWArr
import Derived.Test.YtdooimdefmegaaaDoorWZeros
import Derived.Test.YtdooimdefmegaaaDoorWFoot
import Derived.Test.YtdooimdefmegaaaDoorWKept
import Derived.Test.YtdooimdefmegaaaDoorWShare
import Derived.Test.YtdooimdefmegaaaDoorWN
import Derived.Test.YtdooimdefmegaaaDoorWFootNe
import Derived.Test.YtdooimdefmegaaaDoorWAt
import Derived.Test.YtdooimdefmegaaaDoorWEqStruct
import Derived.Test.YtdooimdefmegaaaDoorWRepsOne
import Derived.Test.YtdooimdefmegaaaDoorWInv
import Derived.Test.YtdooimdefmegaaaDoorWInvWords
import Derived.Test.YtdooimdefmegaaaDoorWGuard
import Derived.Test.YtdooimdefmegaaaDoorWNEv
import Derived.Test.YtdooimdefmegaaaDoorWMore
namespace Go.Proofs.YtdooimdefmegaaaDoor.PWf
open Go.RowKit Go.Proofs.YtdooimdefmegaaaDoorW.PrintWords Go.Proofs.YtdooimdefmegaaaDoorW.PrintLast Go.Proofs.YtdooimdefmegaaaDoorW.PrintMore
attribute [local go_sem] max2_int min2_int max_two min_two max_three min_three max_four min_four   -- for this text's walks alone
set_option linter.unusedVariables false
set_option linter.unusedSimpArgs false



def errW : Option Int → Value
  | none => .nilIface
  | some c => .iface 0 (.int .i64 c)
theorem errW_none : errW none = .nilIface := rfl
theorem errW_some (c : Int) : errW (some c) = .iface 0 (.int .i64 c) := rfl

theorem info5 : (Tryd.prog.info? 5).map (fun i => (i.zero, i.size, i.bytes)) = some (some (.int .u8 0), 1, 1) := by kernel_rfl
theorem info9 : (Tryd.prog.info? 9).map (fun i => (i.zero, i.size, i.bytes)) = some (some (.string ⟨#[]⟩), 1, 16) := by kernel_rfl
-- the values' own types

end Go.Proofs.YtdooimdefmegaaaDoor.PWf
