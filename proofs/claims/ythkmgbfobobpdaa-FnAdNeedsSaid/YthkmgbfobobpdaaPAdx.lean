-- Written by a program of this session (wip/tools/myprint.py) for this claim.
import Derived.Test.YthkmgbfobobpdaaPAdx0
import Derived.Test.YthkmgbfobobpdaaPAdx1
import Derived.Test.YthkmgbfobobpdaaPAdx2
import Derived.Test.YthkmgbfobobpdaaPAdx3
namespace Go.Proofs.Ythkmgbfobobpdaa.PAd
open Go.RowKit Go.Proofs.YthkmgbfobobpdaaW.PrintWords Go.Proofs.YthkmgbfobobpdaaW.PrintLast Go.Proofs.YthkmgbfobobpdaaW.PrintMore
attribute [local go_sem] max2_int min2_int max_two min_two max_three min_three max_four min_four   -- for this text's walks alone
set_option linter.unusedVariables false
set_option linter.unusedSimpArgs false

end Go.Proofs.Ythkmgbfobobpdaa.PAd
