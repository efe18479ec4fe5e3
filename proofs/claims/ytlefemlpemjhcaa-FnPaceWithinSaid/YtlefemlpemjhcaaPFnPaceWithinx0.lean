-- Written by a program of this session's (over the kit's print), with contracts proved by hand among what it calls.
import Derived.Test.YtlefemlpemjhcaaProg
import Derived.Below
import Derived.Deep.Draws
import Derived.Deep.AppendLies
import Derived.Maps.AppendAt
import Derived.OwnWalk
import Derived.Laws.BytesArg
import Derived.Laws.MakeOwn
import Derived.Laws.OwnMore
import Derived.Deep.OwnRows
import Derived.Tactics
import Derived.Lib.ConvBytes
import Derived.Laws.Slices
import Derived.WalkKit
import Derived.KernelRfl
import Derived.RowKit3
import Derived.Deep.LoopGhost
import Derived.Deep.QuietTactic
import Derived.BigQuiet
import Derived.WideLaws
import Derived.Deep.DeepCutAuto
import Derived.Deep.CutBlock
import Derived.Deep.RegionHeld3
import Derived.Laws.Rows
import Derived.Lib.AppendStr
import Derived.ArgAppend
import Derived.Laws.IdiomCopy
import Derived.OrdersHeld
import Derived.Laws.BitsLemmas
import Derived.RowKit
import Derived.Lib.Hide
import Derived.Test.YtlefemlpemjhcaaPacee
import Derived.Lib.Hide
import Derived.Test.YtlefemlpemjhcaaPacer
import Derived.Test.YtlefemlpemjhcaaWWords
import Derived.Test.YtlefemlpemjhcaaWLast
import Derived.Test.YtlefemlpemjhcaaWTab
import Derived.Test.YtlefemlpemjhcaaWFour
import Derived.Test.YtlefemlpemjhcaaWQPut
import Derived.Test.YtlefemlpemjhcaaWApart
import Derived.Test.YtlefemlpemjhcaaWArr
import Derived.Test.YtlefemlpemjhcaaWZeros
import Derived.Test.YtlefemlpemjhcaaWFoot
import Derived.Test.YtlefemlpemjhcaaWKept
import Derived.Test.YtlefemlpemjhcaaWShare
import Derived.Test.YtlefemlpemjhcaaWN
import Derived.Test.YtlefemlpemjhcaaWFootNe
import Derived.Test.YtlefemlpemjhcaaWAt
import Derived.Test.YtlefemlpemjhcaaWEqStruct
import Derived.Test.YtlefemlpemjhcaaWRepsOne
import Derived.Test.YtlefemlpemjhcaaWInv
import Derived.Test.YtlefemlpemjhcaaWInvWords
import Derived.Test.YtlefemlpemjhcaaWGuard
import Derived.Test.YtlefemlpemjhcaaWNEv
import Derived.Test.YtlefemlpemjhcaaWMore
namespace Go.Proofs.Ytlefemlpemjhcaa.PFnPaceWithin
open Go.RowKit Go.Proofs.YtlefemlpemjhcaaW.PrintWords Go.Proofs.YtlefemlpemjhcaaW.PrintLast Go.Proofs.YtlefemlpemjhcaaW.PrintMore
attribute [local go_sem] max2_int min2_int max_two min_two max_three min_three max_four min_four   -- for this text's walks alone
set_option linter.unusedVariables false
set_option linter.unusedSimpArgs false



def errW : Option Int → Value
  | none => .nilIface
  | some c => .iface 0 (.int .i64 c)
theorem errW_none : errW none = .nilIface := rfl
theorem errW_some (c : Int) : errW (some c) = .iface 0 (.int .i64 c) := rfl

theorem xt_ne_nil (l : List UInt8) : (l != ([] : List UInt8)) = !l.isEmpty := by cases l <;> rfl
theorem info3 : (Try.prog.info? 3).map (fun i => (i.zero, i.size, i.bytes)) = some (some (.int .i64 0), 1, 8) := by kernel_rfl
-- the values' own types

end Go.Proofs.Ytlefemlpemjhcaa.PFnPaceWithin
