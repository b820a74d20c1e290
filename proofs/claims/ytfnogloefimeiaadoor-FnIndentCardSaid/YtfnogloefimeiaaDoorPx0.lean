-- WRITTEN by xprint.py (a program of this session, over the kit's print) out of the translation. Not trusted: Lean checks it.
import Derived.Test.YtfnogloefimeiaaDoorProg
import Derived.Below
import Derived.Deep.Draws
import Derived.Deep.AppendLies
import Derived.Maps.AppendAt
import Derived.OwnWalk
import Derived.Laws.BytesArg
import Derived.Laws.MakeOwn
import Derived.Laws.OwnMore
import Derived.Deep.OwnRows
import Derived.Tactics
import Derived.Lib.ConvBytes
import Derived.Laws.Slices
import Derived.WalkKit
import Derived.KernelRfl
import Derived.RowKit3
import Derived.Deep.LoopGhost
import Derived.Deep.QuietTactic
import Derived.BigQuiet
import Derived.WideLaws
import Derived.Deep.DeepCutAuto
import Derived.Deep.CutBlock
import Derived.Deep.RegionHeld3
import Derived.Laws.Rows
import Derived.Lib.AppendStr
import Derived.ArgAppend
import Derived.Laws.IdiomCopy
import Derived.OrdersHeld
import Derived.Laws.BitsLemmas
import Derived.RowKit
import Derived.Test.YtfnogloefimeiaaDoorXw
import Derived.Defers
import Derived.Recover
import Derived.Lib.Hide
import Derived.OneCell
import Derived.Test.YtfnogloefimeiaaDoorSh
import Derived.Test.YtfnogloefimeiaaDoorWWords
import Derived.Test.YtfnogloefimeiaaDoorWLast
import Derived.Test.YtfnogloefimeiaaDoorWTab
import Derived.Test.YtfnogloefimeiaaDoorWFour
import Derived.Test.YtfnogloefimeiaaDoorWQPut
import Derived.Test.YtfnogloefimeiaaDoorWApart
import Derived.Test.YtfnogloefimeiaaDoorWArr
import Derived.Test.YtfnogloefimeiaaDoorWZeros
import Derived.Test.YtfnogloefimeiaaDoorWFoot
import Derived.Test.YtfnogloefimeiaaDoorWKept
import Derived.Test.YtfnogloefimeiaaDoorWShare
import Derived.Test.YtfnogloefimeiaaDoorWN
import Derived.Test.YtfnogloefimeiaaDoorWFootNe
import Derived.Test.YtfnogloefimeiaaDoorWAt
import Derived.Test.YtfnogloefimeiaaDoorWEqStruct
import Derived.Test.YtfnogloefimeiaaDoorWRepsOne
import Derived.Test.YtfnogloefimeiaaDoorWInv
import Derived.Test.YtfnogloefimeiaaDoorWInvWords
import Derived.Test.YtfnogloefimeiaaDoorWGuard
import Derived.Test.YtfnogloefimeiaaDoorWNEv
import Derived.Test.YtfnogloefimeiaaDoorWMore
namespace Go.Proofs.YtfnogloefimeiaaDoor.P
open Go.RowKit Go.Proofs.YtfnogloefimeiaaDoorW.PrintWords Go.Proofs.YtfnogloefimeiaaDoorW.PrintLast Go.Proofs.YtfnogloefimeiaaDoorW.PrintMore
attribute [local go_sem] max2_int min2_int max_two min_two max_three min_three max_four min_four   -- for this text's walks alone
set_option linter.unusedVariables false
set_option linter.unusedSimpArgs false



def errW : Option Int → Value
  | none => .nilIface
  | some c => .iface 0 (.int .i64 c)
theorem errW_none : errW none = .nilIface := rfl
theorem errW_some (c : Int) : errW (some c) = .iface 0 (.int .i64 c) := rfl

theorem info5 : (Tryd.prog.info? 5).map (fun i => (i.zero, i.size, i.bytes)) = some (some (.int .u8 0), 1, 1) := by kernel_rfl
theorem info9 : (Tryd.prog.info? 9).map (fun i => (i.zero, i.size, i.bytes)) = some (some (.string ⟨#[]⟩), 1, 16) := by kernel_rfl
theorem info21 : (Tryd.prog.info? 21).map (fun i => (i.zero, i.size, i.bytes)) = some (some (.int .i32 0), 1, 4) := by kernel_rfl
-- the values' own types

end Go.Proofs.YtfnogloefimeiaaDoor.P
