-- WRITTEN by xprint.py (a program of this session, over the kit's print) out of the translation. Not trusted: Lean checks it.
import Derived.Test.YtaeddkndkmfdiaaDoorProg
import Derived.Below
import Derived.Deep.Draws
import Derived.Deep.AppendLies
import Derived.Maps.AppendAt
import Derived.OwnWalk
import Derived.Laws.BytesArg
import Derived.Laws.MakeOwn
import Derived.Laws.OwnMore
import Derived.Deep.OwnRows
import Derived.Tactics
import Derived.Lib.ConvBytes
import Derived.Laws.Slices
import Derived.WalkKit
import Derived.KernelRfl
import Derived.RowKit3
import Derived.Deep.LoopGhost
import Derived.Deep.QuietTactic
import Derived.BigQuiet
import Derived.WideLaws
import Derived.Deep.DeepCutAuto
import Derived.Deep.CutBlock
import Derived.Deep.RegionHeld3
import Derived.Laws.Rows
import Derived.Lib.AppendStr
import Derived.ArgAppend
import Derived.Laws.IdiomCopy
import Derived.OrdersHeld
import Derived.Laws.BitsLemmas
import Derived.RowKit
import Derived.Test.YtaeddkndkmfdiaaDoorXw
import Derived.Test.YtaeddkndkmfdiaaDoorWWords
import Derived.Test.YtaeddkndkmfdiaaDoorWLast
import Derived.Test.YtaeddkndkmfdiaaDoorWTab
import Derived.Test.YtaeddkndkmfdiaaDoorWFour
import Derived.Test.YtaeddkndkmfdiaaDoorWQPut
import Derived.Test.YtaeddkndkmfdiaaDoorWApart
import Derived.Test.YtaeddkndkmfdiaaDoorWArr
import Derived.Test.YtaeddkndkmfdiaaDoorWZeros
import Derived.Test.YtaeddkndkmfdiaaDoorWFoot
import Derived.Test.YtaeddkndkmfdiaaDoorWKept
import Derived.Test.YtaeddkndkmfdiaaDoorWShare
import Derived.Test.YtaeddkndkmfdiaaDoorWN
import Derived.Test.YtaeddkndkmfdiaaDoorWFootNe
import Derived.Test.YtaeddkndkmfdiaaDoorWAt
import Derived.Test.YtaeddkndkmfdiaaDoorWEqStruct
import Derived.Test.YtaeddkndkmfdiaaDoorWRepsOne
import Derived.Test.YtaeddkndkmfdiaaDoorWInv
import Derived.Test.YtaeddkndkmfdiaaDoorWInvWords
import Derived.Test.YtaeddkndkmfdiaaDoorWGuard
import Derived.Test.YtaeddkndkmfdiaaDoorWNEv
import Derived.Test.YtaeddkndkmfdiaaDoorWMore
namespace Go.Proofs.YtaeddkndkmfdiaaDoor.P
open Go.RowKit Go.Proofs.YtaeddkndkmfdiaaDoorW.PrintWords Go.Proofs.YtaeddkndkmfdiaaDoorW.PrintLast Go.Proofs.YtaeddkndkmfdiaaDoorW.PrintMore
attribute [local go_sem] max2_int min2_int max_two min_two max_three min_three max_four min_four run_store_float   -- for this text's walks alone
set_option linter.unusedVariables false
set_option linter.unusedSimpArgs false



def errW : Option Int → Value
  | none => .nilIface
  | some c => .iface 186 (.int .i64 c)
theorem errW_none : errW none = .nilIface := rfl
theorem errW_some (c : Int) : errW (some c) = .iface 186 (.int .i64 c) := rfl

-- the values' own types

end Go.Proofs.YtaeddkndkmfdiaaDoor.P
