-- Written by a program of this session (wip/tools/myprint.py) for this claim.
import Derived.Test.YthkblpbabcibcaaDoorProg
import Derived.Below
import Derived.Deep.Draws
import Derived.Deep.AppendLies
import Derived.Maps.AppendAt
import Derived.OwnWalk
import Derived.Laws.BytesArg
import Derived.Laws.MakeOwn
import Derived.Laws.OwnMore
import Derived.Deep.OwnRows
import Derived.Tactics
import Derived.Lib.ConvBytes
import Derived.Laws.Slices
import Derived.WalkKit
import Derived.KernelRfl
import Derived.RowKit3
import Derived.Deep.LoopGhost
import Derived.Deep.QuietTactic
import Derived.BigQuiet
import Derived.WideLaws
import Derived.Deep.DeepCutAuto
import Derived.Deep.CutBlock
import Derived.Deep.RegionHeld3
import Derived.Laws.Rows
import Derived.Lib.AppendStr
import Derived.ArgAppend
import Derived.Laws.IdiomCopy
import Derived.OrdersHeld
import Derived.Laws.BitsLemmas
import Derived.RowKit
import Derived.Test.YthkblpbabcibcaaDoorGvWr
import Derived.Test.YthkblpbabcibcaaDoorWWords
import Derived.Test.YthkblpbabcibcaaDoorWLast
import Derived.Test.YthkblpbabcibcaaDoorWTab
import Derived.Test.YthkblpbabcibcaaDoorWFour
import Derived.Test.YthkblpbabcibcaaDoorWQPut
import Derived.Test.YthkblpbabcibcaaDoorWApart
import Derived.Test.YthkblpbabcibcaaDoorWArr
import Derived.Test.YthkblpbabcibcaaDoorWZeros
import Derived.Test.YthkblpbabcibcaaDoorWFoot
import Derived.Test.YthkblpbabcibcaaDoorWKept
import Derived.Test.YthkblpbabcibcaaDoorWShare
import Derived.Test.YthkblpbabcibcaaDoorWN
import Derived.Test.YthkblpbabcibcaaDoorWFootNe
import Derived.Test.YthkblpbabcibcaaDoorWAt
import Derived.Test.YthkblpbabcibcaaDoorWEqStruct
import Derived.Test.YthkblpbabcibcaaDoorWRepsOne
import Derived.Test.YthkblpbabcibcaaDoorWInv
import Derived.Test.YthkblpbabcibcaaDoorWInvWords
import Derived.Test.YthkblpbabcibcaaDoorWGuard
import Derived.Test.YthkblpbabcibcaaDoorWNEv
import Derived.Test.YthkblpbabcibcaaDoorWMore
namespace Go.Proofs.YthkblpbabcibcaaDoor.PWa
open Go.RowKit Go.Proofs.YthkblpbabcibcaaDoorW.PrintWords Go.Proofs.YthkblpbabcibcaaDoorW.PrintLast Go.Proofs.YthkblpbabcibcaaDoorW.PrintMore
attribute [local go_sem] max2_int min2_int max_two min_two max_three min_three max_four min_four   -- for this text's walks alone
set_option linter.unusedVariables false
set_option linter.unusedSimpArgs false



def errW : Option Int → Value
  | none => .nilIface
  | some c => .iface 0 (.int .i64 c)
theorem errW_none : errW none = .nilIface := rfl
theorem errW_some (c : Int) : errW (some c) = .iface 0 (.int .i64 c) := rfl

theorem info9 : (Tryd.prog.info? 9).map (fun i => (i.zero, i.size, i.bytes)) = some (some (.string ⟨#[]⟩), 1, 16) := by kernel_rfl
-- the values' own types

end Go.Proofs.YthkblpbabcibcaaDoor.PWa
