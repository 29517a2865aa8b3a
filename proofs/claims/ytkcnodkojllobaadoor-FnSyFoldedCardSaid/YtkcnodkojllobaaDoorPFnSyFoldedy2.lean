/- Machine-made: walks of functions of the program, out of the print's own lines. -/
import Derived.Test.YtkcnodkojllobaaDoorPFnSyFoldedy0
namespace Go.Proofs.YtkcnodkojllobaaDoor.PFnSyFolded
open Go.RowKit Go.Proofs.YtkcnodkojllobaaDoorW.PrintWords Go.Proofs.YtkcnodkojllobaaDoorW.PrintLast Go.Proofs.YtkcnodkojllobaaDoorW.PrintMore
attribute [local go_sem] max2_int min2_int max_two min_two max_three min_three max_four min_four   -- for this text's walks alone
set_option linter.unusedVariables false
set_option linter.unusedSimpArgs false

end Go.Proofs.YtkcnodkojllobaaDoor.PFnSyFolded
