-- WRITTEN by xprint.py (a program of this session, over the kit's print) out of the translation. Not trusted: Lean checks it.
import Derived.Test.YtlhijjfbcgconaaDoorProg
import Derived.Below
import Derived.Deep.Draws
import Derived.Deep.AppendLies
import Derived.Maps.AppendAt
import Derived.OwnWalk
import Derived.Laws.BytesArg
import Derived.Laws.MakeOwn
import Derived.Laws.OwnMore
import Derived.Deep.OwnRows
import Derived.Tactics
import Derived.Lib.ConvBytes
import Derived.Laws.Slices
import Derived.WalkKit
import Derived.KernelRfl
import Derived.RowKit3
import Derived.Deep.LoopGhost
import Derived.Deep.QuietTactic
import Derived.BigQuiet
import Derived.WideLaws
import Derived.Deep.DeepCutAuto
import Derived.Deep.CutBlock
import Derived.Deep.RegionHeld3
import Derived.Laws.Rows
import Derived.Lib.AppendStr
import Derived.ArgAppend
import Derived.Laws.IdiomCopy
import Derived.OrdersHeld
import Derived.Laws.BitsLemmas
import Derived.RowKit
import Derived.Test.YtlhijjfbcgconaaDoorXw
import Derived.Defers
import Derived.Recover
import Derived.Lib.Hide
import Derived.OneCell
import Derived.Test.YtlhijjfbcgconaaDoorSh
import Derived.Lib.ItoaMem
import Derived.Lib.AppendIntMem
import Derived.Shelf.Unicode.PredsPay
import Derived.Shelf.Strconv.Itoa3
import Derived.Lib.LaidIn
import Derived.Lib.LaidRTab
import Derived.Lib.RuneCountTail
import Derived.Shelf.Unicode.DecodeLastEight
import Derived.Test.YtlhijjfbcgconaaDoorWWords
import Derived.Test.YtlhijjfbcgconaaDoorWLast
import Derived.Test.YtlhijjfbcgconaaDoorWTab
import Derived.Test.YtlhijjfbcgconaaDoorWFour
import Derived.Test.YtlhijjfbcgconaaDoorWQPut
import Derived.Test.YtlhijjfbcgconaaDoorWApart
import Derived.Test.YtlhijjfbcgconaaDoorWArr
import Derived.Test.YtlhijjfbcgconaaDoorWZeros
import Derived.Test.YtlhijjfbcgconaaDoorWFoot
import Derived.Test.YtlhijjfbcgconaaDoorWKept
import Derived.Test.YtlhijjfbcgconaaDoorWShare
import Derived.Test.YtlhijjfbcgconaaDoorWN
import Derived.Test.YtlhijjfbcgconaaDoorWFootNe
import Derived.Test.YtlhijjfbcgconaaDoorWAt
import Derived.Test.YtlhijjfbcgconaaDoorWEqStruct
import Derived.Test.YtlhijjfbcgconaaDoorWRepsOne
import Derived.Test.YtlhijjfbcgconaaDoorWInv
import Derived.Test.YtlhijjfbcgconaaDoorWInvWords
import Derived.Test.YtlhijjfbcgconaaDoorWGuard
import Derived.Test.YtlhijjfbcgconaaDoorWNEv
import Derived.Test.YtlhijjfbcgconaaDoorWMore
namespace Go.Proofs.YtlhijjfbcgconaaDoor.P
open Go.RowKit Go.Proofs.YtlhijjfbcgconaaDoorW.PrintWords Go.Proofs.YtlhijjfbcgconaaDoorW.PrintLast Go.Proofs.YtlhijjfbcgconaaDoorW.PrintMore
attribute [local go_sem] max2_int min2_int max_two min_two max_three min_three max_four min_four run_store_float   -- for this text's walks alone
set_option linter.unusedVariables false
set_option linter.unusedSimpArgs false



def errW : Option Int → Value
  | none => .nilIface
  | some c => .iface 100 (.int .i64 c)
theorem errW_none : errW none = .nilIface := rfl
theorem errW_some (c : Int) : errW (some c) = .iface 100 (.int .i64 c) := rfl

theorem info5 : (Tryd.prog.info? 5).map (fun i => (i.zero, i.size, i.bytes)) = some (some (.int .u8 0), 1, 1) := by kernel_rfl
theorem info9 : (Tryd.prog.info? 9).map (fun i => (i.zero, i.size, i.bytes)) = some (some (.string ⟨#[]⟩), 1, 16) := by kernel_rfl
-- the values' own types

end Go.Proofs.YtlhijjfbcgconaaDoor.P
