/- What Go functions compute, as functions of numbers and lists, and the walks that show it. No condition. Written by a program (wip/tools/mprint.py) over the kit's print. -/
import Derived.Test.YtnidncohhinjbaaDoorMjsonparserdecodeUnicodeEscape0
import Derived.Test.YtnidncohhinjbaaDoorMjsonparserdecodeUnicodeEscape1
namespace Go.Proofs.YtnidncohhinjbaaDoor.MjsonparserdecodeUnicodeEscape
open Go.RowKit Go.Proofs.YtnidncohhinjbaaDoorW.PrintWords Go.Proofs.YtnidncohhinjbaaDoorW.PrintLast Go.Proofs.YtnidncohhinjbaaDoorW.PrintMore
attribute [local go_sem] max2_int min2_int max_two min_two max_three min_three max_four min_four   -- for this text's walks alone
set_option linter.unusedVariables false
set_option linter.unusedSimpArgs false

end Go.Proofs.YtnidncohhinjbaaDoor.MjsonparserdecodeUnicodeEscape
