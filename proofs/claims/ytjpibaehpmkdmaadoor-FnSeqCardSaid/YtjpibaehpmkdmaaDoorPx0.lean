-- WRITTEN by xprint.py (a program of this session, over the kit's print) out of the translation. Not trusted: Lean checks it.
import Derived.Test.YtjpibaehpmkdmaaDoorProg
import Derived.Below
import Derived.Deep.Draws
import Derived.Deep.AppendLies
import Derived.Maps.AppendAt
import Derived.OwnWalk
import Derived.Laws.BytesArg
import Derived.Laws.MakeOwn
import Derived.Laws.OwnMore
import Derived.Deep.OwnRows
import Derived.Tactics
import Derived.Lib.ConvBytes
import Derived.Laws.Slices
import Derived.WalkKit
import Derived.KernelRfl
import Derived.RowKit3
import Derived.Deep.LoopGhost
import Derived.Deep.QuietTactic
import Derived.BigQuiet
import Derived.WideLaws
import Derived.Deep.DeepCutAuto
import Derived.Deep.CutBlock
import Derived.Deep.RegionHeld3
import Derived.Laws.Rows
import Derived.Lib.AppendStr
import Derived.ArgAppend
import Derived.Laws.IdiomCopy
import Derived.OrdersHeld
import Derived.Laws.BitsLemmas
import Derived.RowKit
import Derived.Test.YtjpibaehpmkdmaaDoorXw
import Derived.Lib.ItoaLen
import Derived.Test.YtjpibaehpmkdmaaDoorSh
import Derived.Lib.ItoaMem
import Derived.Lib.AppendIntMem
import Derived.Shelf.Unicode.PredsPay
import Derived.Shelf.Strconv.Itoa3
import Derived.Lib.LaidIn
import Derived.Lib.LaidRTab
import Derived.Lib.FrozenHead
import Derived.Test.YtjpibaehpmkdmaaDoorWWords
import Derived.Test.YtjpibaehpmkdmaaDoorWLast
import Derived.Test.YtjpibaehpmkdmaaDoorWTab
import Derived.Test.YtjpibaehpmkdmaaDoorWFour
import Derived.Test.YtjpibaehpmkdmaaDoorWQPut
import Derived.Test.YtjpibaehpmkdmaaDoorWApart
import Derived.Test.YtjpibaehpmkdmaaDoorWArr
import Derived.Test.YtjpibaehpmkdmaaDoorWZeros
import Derived.Test.YtjpibaehpmkdmaaDoorWFoot
import Derived.Test.YtjpibaehpmkdmaaDoorWKept
import Derived.Test.YtjpibaehpmkdmaaDoorWShare
import Derived.Test.YtjpibaehpmkdmaaDoorWN
import Derived.Test.YtjpibaehpmkdmaaDoorWFootNe
import Derived.Test.YtjpibaehpmkdmaaDoorWAt
import Derived.Test.YtjpibaehpmkdmaaDoorWEqStruct
import Derived.Test.YtjpibaehpmkdmaaDoorWRepsOne
import Derived.Test.YtjpibaehpmkdmaaDoorWInv
import Derived.Test.YtjpibaehpmkdmaaDoorWInvWords
import Derived.Test.YtjpibaehpmkdmaaDoorWGuard
import Derived.Test.YtjpibaehpmkdmaaDoorWNEv
import Derived.Test.YtjpibaehpmkdmaaDoorWMore
namespace Go.Proofs.YtjpibaehpmkdmaaDoor.P
open Go.RowKit Go.Proofs.YtjpibaehpmkdmaaDoorW.PrintWords Go.Proofs.YtjpibaehpmkdmaaDoorW.PrintLast Go.Proofs.YtjpibaehpmkdmaaDoorW.PrintMore
attribute [local go_sem] max2_int min2_int max_two min_two max_three min_three max_four min_four run_store_float   -- for this text's walks alone
set_option linter.unusedVariables false
set_option linter.unusedSimpArgs false



def errW : Option Int → Value
  | none => .nilIface
  | some c => .iface 0 (.int .i64 c)
theorem errW_none : errW none = .nilIface := rfl
theorem errW_some (c : Int) : errW (some c) = .iface 0 (.int .i64 c) := rfl

theorem info2 : (Tryd.prog.info? 2).map (fun i => (i.zero, i.size, i.bytes)) = some (some (.int .i64 0), 1, 8) := by kernel_rfl
theorem info3 : (Tryd.prog.info? 3).map (fun i => (i.zero, i.size, i.bytes)) = some (some (.int .i64 0), 1, 8) := by kernel_rfl
-- the values' own types

end Go.Proofs.YtjpibaehpmkdmaaDoor.P
