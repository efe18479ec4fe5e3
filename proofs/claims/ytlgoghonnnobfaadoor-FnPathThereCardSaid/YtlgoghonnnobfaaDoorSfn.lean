-- Written by a program of this session's (over the kit's print), with contracts proved by hand among what it calls.
import Derived.Test.YtlgoghonnnobfaaDoorProg
import Derived.Below
import Derived.Deep.Draws
import Derived.Deep.AppendLies
import Derived.Maps.AppendAt
import Derived.OwnWalk
import Derived.Laws.BytesArg
import Derived.Laws.MakeOwn
import Derived.Laws.OwnMore
import Derived.Deep.OwnRows
import Derived.Tactics
import Derived.Lib.ConvBytes
import Derived.Laws.Slices
import Derived.WalkKit
import Derived.KernelRfl
import Derived.RowKit3
import Derived.Deep.LoopGhost
import Derived.Deep.QuietTactic
import Derived.BigQuiet
import Derived.WideLaws
import Derived.Deep.DeepCutAuto
import Derived.Deep.CutBlock
import Derived.Deep.RegionHeld3
import Derived.Laws.Rows
import Derived.Lib.AppendStr
import Derived.ArgAppend
import Derived.Laws.IdiomCopy
import Derived.OrdersHeld
import Derived.Laws.BitsLemmas
import Derived.RowKit
import Derived.Lib.Hide

import Derived.Test.YtlgoghonnnobfaaDoorWWords
import Derived.Test.YtlgoghonnnobfaaDoorWLast
import Derived.Test.YtlgoghonnnobfaaDoorWTab
import Derived.Test.YtlgoghonnnobfaaDoorWFour
import Derived.Test.YtlgoghonnnobfaaDoorWQPut
import Derived.Test.YtlgoghonnnobfaaDoorWApart
import Derived.Test.YtlgoghonnnobfaaDoorWArr
import Derived.Test.YtlgoghonnnobfaaDoorWZeros
import Derived.Test.YtlgoghonnnobfaaDoorWFoot
import Derived.Test.YtlgoghonnnobfaaDoorWKept
import Derived.Test.YtlgoghonnnobfaaDoorWShare
import Derived.Test.YtlgoghonnnobfaaDoorWN
import Derived.Test.YtlgoghonnnobfaaDoorWFootNe
import Derived.Test.YtlgoghonnnobfaaDoorWAt
import Derived.Test.YtlgoghonnnobfaaDoorWEqStruct
import Derived.Test.YtlgoghonnnobfaaDoorWRepsOne
import Derived.Test.YtlgoghonnnobfaaDoorWInv
import Derived.Test.YtlgoghonnnobfaaDoorWInvWords
import Derived.Test.YtlgoghonnnobfaaDoorWGuard
import Derived.Test.YtlgoghonnnobfaaDoorWNEv
import Derived.Test.YtlgoghonnnobfaaDoorWMore
namespace Go.Proofs.YtlgoghonnnobfaaDoor.Sfn
open Go.RowKit Go.Proofs.YtlgoghonnnobfaaDoorW.PrintWords Go.Proofs.YtlgoghonnnobfaaDoorW.PrintLast Go.Proofs.YtlgoghonnnobfaaDoorW.PrintMore
attribute [local go_sem] max2_int min2_int max_two min_two max_three min_three max_four min_four   -- for this text's walks alone
set_option linter.unusedVariables false
set_option linter.unusedSimpArgs false



def errW : Option Int → Value
  | none => .nilIface
  | some c => .iface 0 (.int .i64 c)
theorem errW_none : errW none = .nilIface := rfl
theorem errW_some (c : Int) : errW (some c) = .iface 0 (.int .i64 c) := rfl

theorem xt_ne_nil (l : List UInt8) : (l != ([] : List UInt8)) = !l.isEmpty := by cases l <;> rfl
theorem info5 : (Tryd.prog.info? 5).map (fun i => (i.zero, i.size, i.bytes)) = some (some (.int .u8 0), 1, 1) := by kernel_rfl
end Go.Proofs.YtlgoghonnnobfaaDoor.Sfn
