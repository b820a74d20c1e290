-- WRITTEN by xprint.py (a program of this session, over the kit's print) out of the translation. Not trusted: Lean checks it.
import Derived.Test.YtdconkiilelaoaaDoorProg
import Derived.Below
import Derived.Deep.Draws
import Derived.Deep.AppendLies
import Derived.Maps.AppendAt
import Derived.OwnWalk
import Derived.Laws.BytesArg
import Derived.Laws.MakeOwn
import Derived.Laws.OwnMore
import Derived.Deep.OwnRows
import Derived.Tactics
import Derived.Lib.ConvBytes
import Derived.Laws.Slices
import Derived.WalkKit
import Derived.KernelRfl
import Derived.RowKit3
import Derived.Deep.LoopGhost
import Derived.Deep.QuietTactic
import Derived.BigQuiet
import Derived.WideLaws
import Derived.Deep.DeepCutAuto
import Derived.Deep.CutBlock
import Derived.Deep.RegionHeld3
import Derived.Laws.Rows
import Derived.Lib.AppendStr
import Derived.ArgAppend
import Derived.Laws.IdiomCopy
import Derived.OrdersHeld
import Derived.Laws.BitsLemmas
import Derived.RowKit
import Derived.Test.YtdconkiilelaoaaDoorXw
import Derived.Test.YtdconkiilelaoaaDoorWWords
import Derived.Test.YtdconkiilelaoaaDoorWLast
import Derived.Test.YtdconkiilelaoaaDoorWTab
import Derived.Test.YtdconkiilelaoaaDoorWFour
import Derived.Test.YtdconkiilelaoaaDoorWQPut
import Derived.Test.YtdconkiilelaoaaDoorWApart
import Derived.Test.YtdconkiilelaoaaDoorWArr
import Derived.Test.YtdconkiilelaoaaDoorWZeros
import Derived.Test.YtdconkiilelaoaaDoorWFoot
import Derived.Test.YtdconkiilelaoaaDoorWKept
import Derived.Test.YtdconkiilelaoaaDoorWShare
import Derived.Test.YtdconkiilelaoaaDoorWN
import Derived.Test.YtdconkiilelaoaaDoorWFootNe
import Derived.Test.YtdconkiilelaoaaDoorWAt
import Derived.Test.YtdconkiilelaoaaDoorWEqStruct
import Derived.Test.YtdconkiilelaoaaDoorWRepsOne
import Derived.Test.YtdconkiilelaoaaDoorWInv
import Derived.Test.YtdconkiilelaoaaDoorWInvWords
import Derived.Test.YtdconkiilelaoaaDoorWGuard
import Derived.Test.YtdconkiilelaoaaDoorWNEv
import Derived.Test.YtdconkiilelaoaaDoorWMore
namespace Go.Proofs.YtdconkiilelaoaaDoor.P
open Go.RowKit Go.Proofs.YtdconkiilelaoaaDoorW.PrintWords Go.Proofs.YtdconkiilelaoaaDoorW.PrintLast Go.Proofs.YtdconkiilelaoaaDoorW.PrintMore
attribute [local go_sem] max2_int min2_int max_two min_two max_three min_three max_four min_four run_store_float   -- for this text's walks alone
set_option linter.unusedVariables false
set_option linter.unusedSimpArgs false



def errW : Option Int → Value
  | none => .nilIface
  | some c => .iface 94 (.int .i64 c)
theorem errW_none : errW none = .nilIface := rfl
theorem errW_some (c : Int) : errW (some c) = .iface 94 (.int .i64 c) := rfl

-- the values' own types

end Go.Proofs.YtdconkiilelaoaaDoor.P
