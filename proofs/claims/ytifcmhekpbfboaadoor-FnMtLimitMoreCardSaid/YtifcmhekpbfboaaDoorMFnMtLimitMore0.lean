/- What Go functions compute, as functions of numbers and lists, and the walks that show it. No condition. Written by a program (wip/tools/mprint.py) over the kit's print. -/
import Derived.Test.YtifcmhekpbfboaaDoorProg
import Derived.Below
import Derived.Deep.Draws
import Derived.Deep.AppendLies
import Derived.Maps.AppendAt
import Derived.OwnWalk
import Derived.Laws.BytesArg
import Derived.Laws.MakeOwn
import Derived.Laws.OwnMore
import Derived.Deep.OwnRows
import Derived.Tactics
import Derived.Lib.ConvBytes
import Derived.Laws.Slices
import Derived.WalkKit
import Derived.KernelRfl
import Derived.RowKit3
import Derived.Deep.LoopGhost
import Derived.Deep.QuietTactic
import Derived.BigQuiet
import Derived.WideLaws
import Derived.Deep.DeepCutAuto
import Derived.Deep.CutBlock
import Derived.Deep.RegionHeld3
import Derived.Laws.Rows
import Derived.Lib.AppendStr
import Derived.ArgAppend
import Derived.Laws.IdiomCopy
import Derived.OrdersHeld
import Derived.Laws.BitsLemmas
import Derived.RowKit
import Derived.Test.YtifcmhekpbfboaaDoorWWords
import Derived.Test.YtifcmhekpbfboaaDoorWLast
import Derived.Test.YtifcmhekpbfboaaDoorWTab
import Derived.Test.YtifcmhekpbfboaaDoorWFour
import Derived.Test.YtifcmhekpbfboaaDoorWQPut
import Derived.Test.YtifcmhekpbfboaaDoorWApart
import Derived.Test.YtifcmhekpbfboaaDoorWArr
import Derived.Test.YtifcmhekpbfboaaDoorWZeros
import Derived.Test.YtifcmhekpbfboaaDoorWFoot
import Derived.Test.YtifcmhekpbfboaaDoorWKept
import Derived.Test.YtifcmhekpbfboaaDoorWShare
import Derived.Test.YtifcmhekpbfboaaDoorWN
import Derived.Test.YtifcmhekpbfboaaDoorWFootNe
import Derived.Test.YtifcmhekpbfboaaDoorWAt
import Derived.Test.YtifcmhekpbfboaaDoorWEqStruct
import Derived.Test.YtifcmhekpbfboaaDoorWRepsOne
import Derived.Test.YtifcmhekpbfboaaDoorWInv
import Derived.Test.YtifcmhekpbfboaaDoorWInvWords
import Derived.Test.YtifcmhekpbfboaaDoorWGuard
import Derived.Test.YtifcmhekpbfboaaDoorWNEv
import Derived.Test.YtifcmhekpbfboaaDoorWMore
namespace Go.Proofs.YtifcmhekpbfboaaDoor.MFnMtLimitMore
open Go.RowKit Go.Proofs.YtifcmhekpbfboaaDoorW.PrintWords Go.Proofs.YtifcmhekpbfboaaDoorW.PrintLast Go.Proofs.YtifcmhekpbfboaaDoorW.PrintMore
attribute [local go_sem] max2_int min2_int max_two min_two max_three min_three max_four min_four   -- for this text's walks alone
set_option linter.unusedVariables false
set_option linter.unusedSimpArgs false



def errW : Option Int → Value
 | none => .nilIface
 | some c => .iface 0 (.int .i64 c)
theorem errW_none : errW none = .nilIface := rfl
theorem errW_some (c : Int) : errW (some c) = .iface 0 (.int .i64 c) := rfl

-- the values' own types

end Go.Proofs.YtifcmhekpbfboaaDoor.MFnMtLimitMore
