-- WRITTEN by xprint.py (a program of this session, over the kit's print) out of the translation. Not trusted: Lean checks it.
import Derived.Test.YtfnogloefimeiaaProg
import Derived.Below
import Derived.Deep.Draws
import Derived.Deep.AppendLies
import Derived.Maps.AppendAt
import Derived.OwnWalk
import Derived.Laws.BytesArg
import Derived.Laws.MakeOwn
import Derived.Laws.OwnMore
import Derived.Deep.OwnRows
import Derived.Tactics
import Derived.Lib.ConvBytes
import Derived.Laws.Slices
import Derived.WalkKit
import Derived.KernelRfl
import Derived.RowKit3
import Derived.Deep.LoopGhost
import Derived.Deep.QuietTactic
import Derived.BigQuiet
import Derived.WideLaws
import Derived.Deep.DeepCutAuto
import Derived.Deep.CutBlock
import Derived.Deep.RegionHeld3
import Derived.Laws.Rows
import Derived.Lib.AppendStr
import Derived.ArgAppend
import Derived.Laws.IdiomCopy
import Derived.OrdersHeld
import Derived.Laws.BitsLemmas
import Derived.RowKit
import Derived.Test.YtfnogloefimeiaaXw
import Derived.Defers
import Derived.Recover
import Derived.Lib.Hide
import Derived.OneCell
import Derived.Test.YtfnogloefimeiaaSh
import Derived.Test.YtfnogloefimeiaaWWords
import Derived.Test.YtfnogloefimeiaaWLast
import Derived.Test.YtfnogloefimeiaaWTab
import Derived.Test.YtfnogloefimeiaaWFour
import Derived.Test.YtfnogloefimeiaaWQPut
import Derived.Test.YtfnogloefimeiaaWApart
import Derived.Test.YtfnogloefimeiaaWArr
import Derived.Test.YtfnogloefimeiaaWZeros
import Derived.Test.YtfnogloefimeiaaWFoot
import Derived.Test.YtfnogloefimeiaaWKept
import Derived.Test.YtfnogloefimeiaaWShare
import Derived.Test.YtfnogloefimeiaaWN
import Derived.Test.YtfnogloefimeiaaWFootNe
import Derived.Test.YtfnogloefimeiaaWAt
import Derived.Test.YtfnogloefimeiaaWEqStruct
import Derived.Test.YtfnogloefimeiaaWRepsOne
import Derived.Test.YtfnogloefimeiaaWInv
import Derived.Test.YtfnogloefimeiaaWInvWords
import Derived.Test.YtfnogloefimeiaaWGuard
import Derived.Test.YtfnogloefimeiaaWNEv
import Derived.Test.YtfnogloefimeiaaWMore
namespace Go.Proofs.Ytfnogloefimeiaa.P
open Go.RowKit Go.Proofs.YtfnogloefimeiaaW.PrintWords Go.Proofs.YtfnogloefimeiaaW.PrintLast Go.Proofs.YtfnogloefimeiaaW.PrintMore
attribute [local go_sem] max2_int min2_int max_two min_two max_three min_three max_four min_four   -- for this text's walks alone
set_option linter.unusedVariables false
set_option linter.unusedSimpArgs false



def errW : Option Int → Value
  | none => .nilIface
  | some c => .iface 0 (.int .i64 c)
theorem errW_none : errW none = .nilIface := rfl
theorem errW_some (c : Int) : errW (some c) = .iface 0 (.int .i64 c) := rfl

theorem info9 : (Try.prog.info? 9).map (fun i => (i.zero, i.size, i.bytes)) = some (some (.string ⟨#[]⟩), 1, 16) := by kernel_rfl
theorem info21 : (Try.prog.info? 21).map (fun i => (i.zero, i.size, i.bytes)) = some (some (.int .i32 0), 1, 4) := by kernel_rfl
-- the values' own types

end Go.Proofs.Ytfnogloefimeiaa.P
