/- What Go functions compute, as functions of numbers and lists, and the walks that show it. No condition. Written by a program (wip/tools/mprint.py) over the kit's print. -/
import Derived.Test.YtifcmhekpbfboaaProg
import Derived.Below
import Derived.Deep.Draws
import Derived.Deep.AppendLies
import Derived.Maps.AppendAt
import Derived.OwnWalk
import Derived.Laws.BytesArg
import Derived.Laws.MakeOwn
import Derived.Laws.OwnMore
import Derived.Deep.OwnRows
import Derived.Tactics
import Derived.Lib.ConvBytes
import Derived.Laws.Slices
import Derived.WalkKit
import Derived.KernelRfl
import Derived.RowKit3
import Derived.Deep.LoopGhost
import Derived.Deep.QuietTactic
import Derived.BigQuiet
import Derived.WideLaws
import Derived.Deep.DeepCutAuto
import Derived.Deep.CutBlock
import Derived.Deep.RegionHeld3
import Derived.Laws.Rows
import Derived.Lib.AppendStr
import Derived.ArgAppend
import Derived.Laws.IdiomCopy
import Derived.OrdersHeld
import Derived.Laws.BitsLemmas
import Derived.RowKit
import Derived.Test.YtifcmhekpbfboaaWWords
import Derived.Test.YtifcmhekpbfboaaWLast
import Derived.Test.YtifcmhekpbfboaaWTab
import Derived.Test.YtifcmhekpbfboaaWFour
import Derived.Test.YtifcmhekpbfboaaWQPut
import Derived.Test.YtifcmhekpbfboaaWApart
import Derived.Test.YtifcmhekpbfboaaWArr
import Derived.Test.YtifcmhekpbfboaaWZeros
import Derived.Test.YtifcmhekpbfboaaWFoot
import Derived.Test.YtifcmhekpbfboaaWKept
import Derived.Test.YtifcmhekpbfboaaWShare
import Derived.Test.YtifcmhekpbfboaaWN
import Derived.Test.YtifcmhekpbfboaaWFootNe
import Derived.Test.YtifcmhekpbfboaaWAt
import Derived.Test.YtifcmhekpbfboaaWEqStruct
import Derived.Test.YtifcmhekpbfboaaWRepsOne
import Derived.Test.YtifcmhekpbfboaaWInv
import Derived.Test.YtifcmhekpbfboaaWInvWords
import Derived.Test.YtifcmhekpbfboaaWGuard
import Derived.Test.YtifcmhekpbfboaaWNEv
import Derived.Test.YtifcmhekpbfboaaWMore
namespace Go.Proofs.Ytifcmhekpbfboaa.MFnSjPathOften
open Go.RowKit Go.Proofs.YtifcmhekpbfboaaW.PrintWords Go.Proofs.YtifcmhekpbfboaaW.PrintLast Go.Proofs.YtifcmhekpbfboaaW.PrintMore
attribute [local go_sem] max2_int min2_int max_two min_two max_three min_three max_four min_four   -- for this text's walks alone
set_option linter.unusedVariables false
set_option linter.unusedSimpArgs false



def errW : Option Int → Value
 | none => .nilIface
 | some c => .iface 0 (.int .i64 c)
theorem errW_none : errW none = .nilIface := rfl
theorem errW_some (c : Int) : errW (some c) = .iface 0 (.int .i64 c) := rfl

theorem info5 : (Try.prog.info? 5).map (fun i => (i.zero, i.size, i.bytes)) = some (some (.int .u8 0), 1, 1) := by kernel_rfl
theorem info9 : (Try.prog.info? 9).map (fun i => (i.zero, i.size, i.bytes)) = some (some (.string ⟨#[]⟩), 1, 16) := by kernel_rfl
-- the values' own types

end Go.Proofs.Ytifcmhekpbfboaa.MFnSjPathOften
