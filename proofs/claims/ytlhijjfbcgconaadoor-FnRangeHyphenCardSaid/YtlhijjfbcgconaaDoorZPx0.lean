-- WRITTEN by xprint.py (a program of this session, over the kit's print) out of the translation. Not trusted: Lean checks it.
import Derived.Test.YtlhijjfbcgconaaDoorProg
import Derived.Below
import Derived.Deep.Draws
import Derived.Deep.AppendLies
import Derived.Maps.AppendAt
import Derived.OwnWalk
import Derived.Laws.BytesArg
import Derived.Laws.MakeOwn
import Derived.Laws.OwnMore
import Derived.Deep.OwnRows
import Derived.Tactics
import Derived.Lib.ConvBytes
import Derived.Laws.Slices
import Derived.WalkKit
import Derived.KernelRfl
import Derived.RowKit3
import Derived.Deep.LoopGhost
import Derived.Deep.QuietTactic
import Derived.BigQuiet
import Derived.WideLaws
import Derived.Deep.DeepCutAuto
import Derived.Deep.CutBlock
import Derived.Deep.RegionHeld3
import Derived.Laws.Rows
import Derived.Lib.AppendStr
import Derived.ArgAppend
import Derived.Laws.IdiomCopy
import Derived.OrdersHeld
import Derived.Laws.BitsLemmas
import Derived.RowKit
import Derived.Test.YtlhijjfbcgconaaDoorZXw
import Derived.Defers
import Derived.Recover
import Derived.Lib.Hide
import Derived.OneCell
import Derived.Test.YtlhijjfbcgconaaDoorZSh
import Derived.Lib.ItoaMem
import Derived.Lib.AppendIntMem
import Derived.Shelf.Unicode.PredsPay
import Derived.Shelf.Strconv.Itoa3
import Derived.Lib.LaidIn
import Derived.Lib.LaidRTab
import Derived.Lib.RuneCountTail
import Derived.Shelf.Unicode.DecodeLastEight
import Derived.Test.YtlhijjfbcgconaaDoorZWWords
import Derived.Test.YtlhijjfbcgconaaDoorZWLast
import Derived.Test.YtlhijjfbcgconaaDoorZWTab
import Derived.Test.YtlhijjfbcgconaaDoorZWFour
import Derived.Test.YtlhijjfbcgconaaDoorZWQPut
import Derived.Test.YtlhijjfbcgconaaDoorZWApart
import Derived.Test.YtlhijjfbcgconaaDoorZWArr
import Derived.Test.YtlhijjfbcgconaaDoorZWZeros
import Derived.Test.YtlhijjfbcgconaaDoorZWFoot
import Derived.Test.YtlhijjfbcgconaaDoorZWKept
import Derived.Test.YtlhijjfbcgconaaDoorZWShare
import Derived.Test.YtlhijjfbcgconaaDoorZWN
import Derived.Test.YtlhijjfbcgconaaDoorZWFootNe
import Derived.Test.YtlhijjfbcgconaaDoorZWAt
import Derived.Test.YtlhijjfbcgconaaDoorZWEqStruct
import Derived.Test.YtlhijjfbcgconaaDoorZWRepsOne
import Derived.Test.YtlhijjfbcgconaaDoorZWInv
import Derived.Test.YtlhijjfbcgconaaDoorZWInvWords
import Derived.Test.YtlhijjfbcgconaaDoorZWGuard
import Derived.Test.YtlhijjfbcgconaaDoorZWNEv
import Derived.Test.YtlhijjfbcgconaaDoorZWMore
namespace Go.Proofs.YtlhijjfbcgconaaDoor.P
open Go.RowKit Go.Proofs.YtlhijjfbcgconaaDoorW.PrintWords Go.Proofs.YtlhijjfbcgconaaDoorW.PrintLast Go.Proofs.YtlhijjfbcgconaaDoorW.PrintMore
attribute [local go_sem] max2_int min2_int max_two min_two max_three min_three max_four min_four run_store_float   -- for this text's walks alone
set_option linter.unusedVariables false
set_option linter.unusedSimpArgs false



def errW : Option Int → Value
  | none => .nilIface
  | some c => .iface 100 (.int .i64 c)
theorem errW_none : errW none = .nilIface := rfl
theorem errW_some (c : Int) : errW (some c) = .iface 100 (.int .i64 c) := rfl

theorem info5 : (Tryd.prog.info? 5).map (fun i => (i.zero, i.size, i.bytes)) = some (some (.int .u8 0), 1, 1) := by kernel_rfl
theorem info9 : (Tryd.prog.info? 9).map (fun i => (i.zero, i.size, i.bytes)) = some (some (.string ⟨#[]⟩), 1, 16) := by kernel_rfl
-- the values' own types

end Go.Proofs.YtlhijjfbcgconaaDoor.P

