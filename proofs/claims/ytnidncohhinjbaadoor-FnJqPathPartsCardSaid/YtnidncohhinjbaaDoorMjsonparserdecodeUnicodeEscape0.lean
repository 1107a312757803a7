/- What Go functions compute, as functions of numbers and lists, and the walks that show it. No condition. Written by a program (wip/tools/mprint.py) over the kit's print. -/
import Derived.Test.YtnidncohhinjbaaDoorProg
import Derived.Below
import Derived.Deep.Draws
import Derived.Deep.AppendLies
import Derived.Maps.AppendAt
import Derived.OwnWalk
import Derived.Laws.BytesArg
import Derived.Laws.MakeOwn
import Derived.Laws.OwnMore
import Derived.Deep.OwnRows
import Derived.Tactics
import Derived.Lib.ConvBytes
import Derived.Laws.Slices
import Derived.WalkKit
import Derived.KernelRfl
import Derived.RowKit3
import Derived.Deep.LoopGhost
import Derived.Deep.QuietTactic
import Derived.BigQuiet
import Derived.WideLaws
import Derived.Deep.DeepCutAuto
import Derived.Deep.CutBlock
import Derived.Deep.RegionHeld3
import Derived.Laws.Rows
import Derived.Lib.AppendStr
import Derived.ArgAppend
import Derived.Laws.IdiomCopy
import Derived.OrdersHeld
import Derived.Laws.BitsLemmas
import Derived.RowKit
import Derived.Test.YtnidncohhinjbaaDoorWWords
import Derived.Test.YtnidncohhinjbaaDoorWLast
import Derived.Test.YtnidncohhinjbaaDoorWTab
import Derived.Test.YtnidncohhinjbaaDoorWFour
import Derived.Test.YtnidncohhinjbaaDoorWQPut
import Derived.Test.YtnidncohhinjbaaDoorWApart
import Derived.Test.YtnidncohhinjbaaDoorWArr
import Derived.Test.YtnidncohhinjbaaDoorWZeros
import Derived.Test.YtnidncohhinjbaaDoorWFoot
import Derived.Test.YtnidncohhinjbaaDoorWKept
import Derived.Test.YtnidncohhinjbaaDoorWShare
import Derived.Test.YtnidncohhinjbaaDoorWN
import Derived.Test.YtnidncohhinjbaaDoorWFootNe
import Derived.Test.YtnidncohhinjbaaDoorWAt
import Derived.Test.YtnidncohhinjbaaDoorWEqStruct
import Derived.Test.YtnidncohhinjbaaDoorWRepsOne
import Derived.Test.YtnidncohhinjbaaDoorWInv
import Derived.Test.YtnidncohhinjbaaDoorWInvWords
import Derived.Test.YtnidncohhinjbaaDoorWGuard
import Derived.Test.YtnidncohhinjbaaDoorWNEv
import Derived.Test.YtnidncohhinjbaaDoorWMore
namespace Go.Proofs.YtnidncohhinjbaaDoor.MjsonparserdecodeUnicodeEscape
open Go.RowKit Go.Proofs.YtnidncohhinjbaaDoorW.PrintWords Go.Proofs.YtnidncohhinjbaaDoorW.PrintLast Go.Proofs.YtnidncohhinjbaaDoorW.PrintMore
attribute [local go_sem] max2_int min2_int max_two min_two max_three min_three max_four min_four   -- for this text's walks alone
set_option linter.unusedVariables false
set_option linter.unusedSimpArgs false



def errW : Option Int → Value
 | none => .nilIface
 | some c => .iface 0 (.int .i64 c)
theorem errW_none : errW none = .nilIface := rfl
theorem errW_some (c : Int) : errW (some c) = .iface 0 (.int .i64 c) := rfl

theorem info5 : (Tryd.prog.info? 5).map (fun i => (i.zero, i.size, i.bytes)) = some (some (.int .u8 0), 1, 1) := by kernel_rfl
-- the values' own types

end Go.Proofs.YtnidncohhinjbaaDoor.MjsonparserdecodeUnicodeEscape
