-- WRITTEN by xprint.py (a program of this session, over the kit's print) out of the translation. Not trusted: Lean checks it.
import Derived.Test.YtbjoipclkapcjaaGreatDoorProg
import Derived.Below
import Derived.Deep.Draws
import Derived.Deep.AppendLies
import Derived.Maps.AppendAt
import Derived.OwnWalk
import Derived.Laws.BytesArg
import Derived.Laws.MakeOwn
import Derived.Laws.OwnMore
import Derived.Deep.OwnRows
import Derived.Tactics
import Derived.Lib.ConvBytes
import Derived.Laws.Slices
import Derived.WalkKit
import Derived.KernelRfl
import Derived.RowKit3
import Derived.Deep.LoopGhost
import Derived.Deep.QuietTactic
import Derived.BigQuiet
import Derived.WideLaws
import Derived.Deep.DeepCutAuto
import Derived.Deep.CutBlock
import Derived.Deep.RegionHeld3
import Derived.Laws.Rows
import Derived.Lib.AppendStr
import Derived.ArgAppend
import Derived.Laws.IdiomCopy
import Derived.OrdersHeld
import Derived.Laws.BitsLemmas
import Derived.RowKit
import Derived.Test.YtbjoipclkapcjaaGreatDoorXw
import Derived.Test.YtbjoipclkapcjaaGreatDoorSh
import Derived.Lib.ItoaMem
import Derived.Lib.AppendIntMem
import Derived.Shelf.Unicode.PredsPay
import Derived.Shelf.Strconv.Itoa3
import Derived.Lib.LaidIn
import Derived.Lib.LaidRTab
import Derived.Test.YtbjoipclkapcjaaGreatDoorWWords
import Derived.Test.YtbjoipclkapcjaaGreatDoorWLast
import Derived.Test.YtbjoipclkapcjaaGreatDoorWTab
import Derived.Test.YtbjoipclkapcjaaGreatDoorWFour
import Derived.Test.YtbjoipclkapcjaaGreatDoorWQPut
import Derived.Test.YtbjoipclkapcjaaGreatDoorWApart
import Derived.Test.YtbjoipclkapcjaaGreatDoorWArr
import Derived.Test.YtbjoipclkapcjaaGreatDoorWZeros
import Derived.Test.YtbjoipclkapcjaaGreatDoorWFoot
import Derived.Test.YtbjoipclkapcjaaGreatDoorWKept
import Derived.Test.YtbjoipclkapcjaaGreatDoorWShare
import Derived.Test.YtbjoipclkapcjaaGreatDoorWN
import Derived.Test.YtbjoipclkapcjaaGreatDoorWFootNe
import Derived.Test.YtbjoipclkapcjaaGreatDoorWAt
import Derived.Test.YtbjoipclkapcjaaGreatDoorWEqStruct
import Derived.Test.YtbjoipclkapcjaaGreatDoorWRepsOne
import Derived.Test.YtbjoipclkapcjaaGreatDoorWInv
import Derived.Test.YtbjoipclkapcjaaGreatDoorWInvWords
import Derived.Test.YtbjoipclkapcjaaGreatDoorWGuard
import Derived.Test.YtbjoipclkapcjaaGreatDoorWNEv
import Derived.Test.YtbjoipclkapcjaaGreatDoorWMore
namespace Go.Proofs.YtbjoipclkapcjaaGreatDoor.P
open Go.RowKit Go.Proofs.YtbjoipclkapcjaaGreatDoorW.PrintWords Go.Proofs.YtbjoipclkapcjaaGreatDoorW.PrintLast Go.Proofs.YtbjoipclkapcjaaGreatDoorW.PrintMore
attribute [local go_sem] max2_int min2_int max_two min_two max_three min_three max_four min_four run_store_float   -- for this text's walks alone
set_option linter.unusedVariables false
set_option linter.unusedSimpArgs false



def errW : Option Int → Value
  | none => .nilIface
  | some c => .iface 97 (.int .i64 c)
theorem errW_none : errW none = .nilIface := rfl
theorem errW_some (c : Int) : errW (some c) = .iface 97 (.int .i64 c) := rfl

-- the values' own types

end Go.Proofs.YtbjoipclkapcjaaGreatDoor.P
