-- WRITTEN by xprint.py (a program of this session, over the kit's print) out of the translation. Not trusted: Lean checks it.
import Derived.Test.YtagafmfmmnegfaaDoorProg
import Derived.Below
import Derived.Deep.Draws
import Derived.Deep.AppendLies
import Derived.Maps.AppendAt
import Derived.OwnWalk
import Derived.Laws.BytesArg
import Derived.Laws.MakeOwn
import Derived.Laws.OwnMore
import Derived.Deep.OwnRows
import Derived.Tactics
import Derived.Lib.ConvBytes
import Derived.Laws.Slices
import Derived.WalkKit
import Derived.KernelRfl
import Derived.RowKit3
import Derived.Deep.LoopGhost
import Derived.Deep.QuietTactic
import Derived.BigQuiet
import Derived.WideLaws
import Derived.Deep.DeepCutAuto
import Derived.Deep.CutBlock
import Derived.Deep.RegionHeld3
import Derived.Laws.Rows
import Derived.Lib.AppendStr
import Derived.ArgAppend
import Derived.Laws.IdiomCopy
import Derived.OrdersHeld
import Derived.Laws.BitsLemmas
import Derived.RowKit
import Derived.Test.YtagafmfmmnegfaaDoorXw
import Derived.Laws.AppendOwn
import Derived.Defers
import Derived.Recover
import Derived.Lib.Hide
import Derived.OneCell
import Derived.Test.YtagafmfmmnegfaaDoorSh
import Derived.Lib.ItoaMem
import Derived.Lib.AppendIntMem
import Derived.Shelf.Unicode.PredsPay
import Derived.Shelf.Strconv.Itoa3
import Derived.Lib.LaidIn
import Derived.Lib.LaidRTab
import Derived.Test.YtagafmfmmnegfaaDoorWWords
import Derived.Test.YtagafmfmmnegfaaDoorWLast
import Derived.Test.YtagafmfmmnegfaaDoorWTab
import Derived.Test.YtagafmfmmnegfaaDoorWFour
import Derived.Test.YtagafmfmmnegfaaDoorWQPut
import Derived.Test.YtagafmfmmnegfaaDoorWApart
import Derived.Test.YtagafmfmmnegfaaDoorWArr
import Derived.Test.YtagafmfmmnegfaaDoorWZeros
import Derived.Test.YtagafmfmmnegfaaDoorWFoot
import Derived.Test.YtagafmfmmnegfaaDoorWKept
import Derived.Test.YtagafmfmmnegfaaDoorWShare
import Derived.Test.YtagafmfmmnegfaaDoorWN
import Derived.Test.YtagafmfmmnegfaaDoorWFootNe
import Derived.Test.YtagafmfmmnegfaaDoorWAt
import Derived.Test.YtagafmfmmnegfaaDoorWEqStruct
import Derived.Test.YtagafmfmmnegfaaDoorWRepsOne
import Derived.Test.YtagafmfmmnegfaaDoorWInv
import Derived.Test.YtagafmfmmnegfaaDoorWInvWords
import Derived.Test.YtagafmfmmnegfaaDoorWGuard
import Derived.Test.YtagafmfmmnegfaaDoorWNEv
import Derived.Test.YtagafmfmmnegfaaDoorWMore
namespace Go.Proofs.YtagafmfmmnegfaaDoor.P
open Go.RowKit Go.Proofs.YtagafmfmmnegfaaDoorW.PrintWords Go.Proofs.YtagafmfmmnegfaaDoorW.PrintLast Go.Proofs.YtagafmfmmnegfaaDoorW.PrintMore
attribute [local go_sem] max2_int min2_int max_two min_two max_three min_three max_four min_four   -- for this text's walks alone
set_option linter.unusedVariables false
set_option linter.unusedSimpArgs false



def errW : Option Int → Value
  | none => .nilIface
  | some c => .iface 176 (.int .i64 c)
theorem errW_none : errW none = .nilIface := rfl
theorem errW_some (c : Int) : errW (some c) = .iface 176 (.int .i64 c) := rfl

theorem info2 : (Tryd.prog.info? 2).map (fun i => (i.zero, i.size, i.bytes)) = some (some (.int .i64 0), 1, 8) := by kernel_rfl
theorem info5 : (Tryd.prog.info? 5).map (fun i => (i.zero, i.size, i.bytes)) = some (some (.int .u8 0), 1, 1) := by kernel_rfl
-- the values' own types

end Go.Proofs.YtagafmfmmnegfaaDoor.P
