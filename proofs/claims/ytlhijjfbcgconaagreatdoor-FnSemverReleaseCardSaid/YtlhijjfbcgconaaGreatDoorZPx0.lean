-- WRITTEN by xprint.py (a program of this session, over the kit's print) out of the translation. Not trusted: Lean checks it.
import Derived.Test.YtlhijjfbcgconaaGreatDoorProg
import Derived.Below
import Derived.Deep.Draws
import Derived.Deep.AppendLies
import Derived.Maps.AppendAt
import Derived.OwnWalk
import Derived.Laws.BytesArg
import Derived.Laws.MakeOwn
import Derived.Laws.OwnMore
import Derived.Deep.OwnRows
import Derived.Tactics
import Derived.Lib.ConvBytes
import Derived.Laws.Slices
import Derived.WalkKit
import Derived.KernelRfl
import Derived.RowKit3
import Derived.Deep.LoopGhost
import Derived.Deep.QuietTactic
import Derived.BigQuiet
import Derived.WideLaws
import Derived.Deep.DeepCutAuto
import Derived.Deep.CutBlock
import Derived.Deep.RegionHeld3
import Derived.Laws.Rows
import Derived.Lib.AppendStr
import Derived.ArgAppend
import Derived.Laws.IdiomCopy
import Derived.OrdersHeld
import Derived.Laws.BitsLemmas
import Derived.RowKit
import Derived.Test.YtlhijjfbcgconaaGreatDoorZXw
import Derived.Test.YtlhijjfbcgconaaGreatDoorZSh
import Derived.Lib.RuneCountTail
import Derived.Shelf.Unicode.DecodeLastEight
import Derived.Test.YtlhijjfbcgconaaGreatDoorZWWords
import Derived.Test.YtlhijjfbcgconaaGreatDoorZWLast
import Derived.Test.YtlhijjfbcgconaaGreatDoorZWTab
import Derived.Test.YtlhijjfbcgconaaGreatDoorZWFour
import Derived.Test.YtlhijjfbcgconaaGreatDoorZWQPut
import Derived.Test.YtlhijjfbcgconaaGreatDoorZWApart
import Derived.Test.YtlhijjfbcgconaaGreatDoorZWArr
import Derived.Test.YtlhijjfbcgconaaGreatDoorZWZeros
import Derived.Test.YtlhijjfbcgconaaGreatDoorZWFoot
import Derived.Test.YtlhijjfbcgconaaGreatDoorZWKept
import Derived.Test.YtlhijjfbcgconaaGreatDoorZWShare
import Derived.Test.YtlhijjfbcgconaaGreatDoorZWN
import Derived.Test.YtlhijjfbcgconaaGreatDoorZWFootNe
import Derived.Test.YtlhijjfbcgconaaGreatDoorZWAt
import Derived.Test.YtlhijjfbcgconaaGreatDoorZWEqStruct
import Derived.Test.YtlhijjfbcgconaaGreatDoorZWRepsOne
import Derived.Test.YtlhijjfbcgconaaGreatDoorZWInv
import Derived.Test.YtlhijjfbcgconaaGreatDoorZWInvWords
import Derived.Test.YtlhijjfbcgconaaGreatDoorZWGuard
import Derived.Test.YtlhijjfbcgconaaGreatDoorZWNEv
import Derived.Test.YtlhijjfbcgconaaGreatDoorZWMore
namespace Go.Proofs.YtlhijjfbcgconaaGreatDoor.P
open Go.RowKit Go.Proofs.YtlhijjfbcgconaaGreatDoorW.PrintWords Go.Proofs.YtlhijjfbcgconaaGreatDoorW.PrintLast Go.Proofs.YtlhijjfbcgconaaGreatDoorW.PrintMore
attribute [local go_sem] max2_int min2_int max_two min_two max_three min_three max_four min_four run_store_float   -- for this text's walks alone
set_option linter.unusedVariables false
set_option linter.unusedSimpArgs false



def errW : Option Int → Value
  | none => .nilIface
  | some c => .iface 94 (.int .i64 c)
theorem errW_none : errW none = .nilIface := rfl
theorem errW_some (c : Int) : errW (some c) = .iface 94 (.int .i64 c) := rfl

theorem info5 : (Tryz.prog.info? 5).map (fun i => (i.zero, i.size, i.bytes)) = some (some (.int .u8 0), 1, 1) := by kernel_rfl
theorem info9 : (Tryz.prog.info? 9).map (fun i => (i.zero, i.size, i.bytes)) = some (some (.string ⟨#[]⟩), 1, 16) := by kernel_rfl
-- the values' own types

end Go.Proofs.YtlhijjfbcgconaaGreatDoor.P

