-- Written by a program of this session's (over the kit's print), with contracts proved by hand among what it calls.
import Derived.Test.YtnmnokjflkidmaaProg
import Derived.Below
import Derived.Deep.Draws
import Derived.Deep.AppendLies
import Derived.Maps.AppendAt
import Derived.OwnWalk
import Derived.Laws.BytesArg
import Derived.Laws.MakeOwn
import Derived.Laws.OwnMore
import Derived.Deep.OwnRows
import Derived.Tactics
import Derived.Lib.ConvBytes
import Derived.Laws.Slices
import Derived.WalkKit
import Derived.KernelRfl
import Derived.RowKit3
import Derived.Deep.LoopGhost
import Derived.Deep.QuietTactic
import Derived.BigQuiet
import Derived.WideLaws
import Derived.Deep.DeepCutAuto
import Derived.Deep.CutBlock
import Derived.Deep.RegionHeld3
import Derived.Laws.Rows
import Derived.Lib.AppendStr
import Derived.ArgAppend
import Derived.Laws.IdiomCopy
import Derived.OrdersHeld
import Derived.Laws.BitsLemmas
import Derived.RowKit
import Derived.Lib.Hide
import Derived.Lib.OthersKept
import Derived.Laws.RangeAny
import Derived.Lib.Hide
import Derived.Lib.OthersKept
import Derived.Laws.RangeAny
import Derived.Lib.Hide
import Derived.Test.YtnmnokjflkidmaaSane
import Derived.Lib.Hide
import Derived.Test.YtnmnokjflkidmaaWWords
import Derived.Test.YtnmnokjflkidmaaWLast
import Derived.Test.YtnmnokjflkidmaaWTab
import Derived.Test.YtnmnokjflkidmaaWFour
import Derived.Test.YtnmnokjflkidmaaWQPut
import Derived.Test.YtnmnokjflkidmaaWApart
import Derived.Test.YtnmnokjflkidmaaWArr
import Derived.Test.YtnmnokjflkidmaaWZeros
import Derived.Test.YtnmnokjflkidmaaWFoot
import Derived.Test.YtnmnokjflkidmaaWKept
import Derived.Test.YtnmnokjflkidmaaWShare
import Derived.Test.YtnmnokjflkidmaaWN
import Derived.Test.YtnmnokjflkidmaaWFootNe
import Derived.Test.YtnmnokjflkidmaaWAt
import Derived.Test.YtnmnokjflkidmaaWEqStruct
import Derived.Test.YtnmnokjflkidmaaWRepsOne
import Derived.Test.YtnmnokjflkidmaaWInv
import Derived.Test.YtnmnokjflkidmaaWInvWords
import Derived.Test.YtnmnokjflkidmaaWGuard
import Derived.Test.YtnmnokjflkidmaaWNEv
import Derived.Test.YtnmnokjflkidmaaWMore
namespace Go.Proofs.Ytnmnokjflkidmaa.PFnPathInside
open Go.RowKit Go.Proofs.YtnmnokjflkidmaaW.PrintWords Go.Proofs.YtnmnokjflkidmaaW.PrintLast Go.Proofs.YtnmnokjflkidmaaW.PrintMore
attribute [local go_sem] max2_int min2_int max_two min_two max_three min_three max_four min_four   -- for this text's walks alone
set_option linter.unusedVariables false
set_option linter.unusedSimpArgs false



def errW : Option Int → Value
  | none => .nilIface
  | some c => .iface 0 (.int .i64 c)
theorem errW_none : errW none = .nilIface := rfl
theorem errW_some (c : Int) : errW (some c) = .iface 0 (.int .i64 c) := rfl

theorem xt_ne_nil (l : List UInt8) : (l != ([] : List UInt8)) = !l.isEmpty := by cases l <;> rfl
-- the values' own types

end Go.Proofs.Ytnmnokjflkidmaa.PFnPathInside
