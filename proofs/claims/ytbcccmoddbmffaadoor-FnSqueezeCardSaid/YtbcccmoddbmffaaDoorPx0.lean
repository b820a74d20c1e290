-- WRITTEN by xprint.py (a program of this session, over the kit's print) out of the translation. Not trusted: Lean checks it.
import Derived.Test.YtbcccmoddbmffaaDoorProg
import Derived.Below
import Derived.Deep.Draws
import Derived.Deep.AppendLies
import Derived.Maps.AppendAt
import Derived.OwnWalk
import Derived.Laws.BytesArg
import Derived.Laws.MakeOwn
import Derived.Laws.OwnMore
import Derived.Deep.OwnRows
import Derived.Tactics
import Derived.Lib.ConvBytes
import Derived.Laws.Slices
import Derived.WalkKit
import Derived.KernelRfl
import Derived.RowKit3
import Derived.Deep.LoopGhost
import Derived.Deep.QuietTactic
import Derived.BigQuiet
import Derived.WideLaws
import Derived.Deep.DeepCutAuto
import Derived.Deep.CutBlock
import Derived.Deep.RegionHeld3
import Derived.Laws.Rows
import Derived.Lib.AppendStr
import Derived.ArgAppend
import Derived.Laws.IdiomCopy
import Derived.OrdersHeld
import Derived.Laws.BitsLemmas
import Derived.RowKit
import Derived.Test.YtbcccmoddbmffaaDoorXw
import Derived.Laws.AppendOwn
import Derived.WalkSmall
import Derived.Test.YtbcccmoddbmffaaDoorSh
import Derived.Lib.Hide
import Derived.Lib.FrozenHead
import Derived.Lib.RuneCountTail
import Derived.Shelf.Unicode.DecodeLastEight
import Derived.Test.YtbcccmoddbmffaaDoorWWords
import Derived.Test.YtbcccmoddbmffaaDoorWLast
import Derived.Test.YtbcccmoddbmffaaDoorWTab
import Derived.Test.YtbcccmoddbmffaaDoorWFour
import Derived.Test.YtbcccmoddbmffaaDoorWQPut
import Derived.Test.YtbcccmoddbmffaaDoorWApart
import Derived.Test.YtbcccmoddbmffaaDoorWArr
import Derived.Test.YtbcccmoddbmffaaDoorWZeros
import Derived.Test.YtbcccmoddbmffaaDoorWFoot
import Derived.Test.YtbcccmoddbmffaaDoorWKept
import Derived.Test.YtbcccmoddbmffaaDoorWShare
import Derived.Test.YtbcccmoddbmffaaDoorWN
import Derived.Test.YtbcccmoddbmffaaDoorWFootNe
import Derived.Test.YtbcccmoddbmffaaDoorWAt
import Derived.Test.YtbcccmoddbmffaaDoorWEqStruct
import Derived.Test.YtbcccmoddbmffaaDoorWRepsOne
import Derived.Test.YtbcccmoddbmffaaDoorWInv
import Derived.Test.YtbcccmoddbmffaaDoorWInvWords
import Derived.Test.YtbcccmoddbmffaaDoorWGuard
import Derived.Test.YtbcccmoddbmffaaDoorWNEv
import Derived.Test.YtbcccmoddbmffaaDoorWMore
namespace Go.Proofs.YtbcccmoddbmffaaDoor.P
open Go.RowKit Go.Proofs.YtbcccmoddbmffaaDoorW.PrintWords Go.Proofs.YtbcccmoddbmffaaDoorW.PrintLast Go.Proofs.YtbcccmoddbmffaaDoorW.PrintMore
attribute [local go_sem] max2_int min2_int max_two min_two max_three min_three max_four min_four   -- for this text's walks alone
set_option linter.unusedVariables false
set_option linter.unusedSimpArgs false



def errW : Option Int → Value
  | none => .nilIface
  | some c => .iface 0 (.int .i64 c)
theorem errW_none : errW none = .nilIface := rfl
theorem errW_some (c : Int) : errW (some c) = .iface 0 (.int .i64 c) := rfl

theorem info9 : (Tryd.prog.info? 9).map (fun i => (i.zero, i.size, i.bytes)) = some (some (.string ⟨#[]⟩), 1, 16) := by kernel_rfl
theorem info21 : (Tryd.prog.info? 21).map (fun i => (i.zero, i.size, i.bytes)) = some (some (.int .i32 0), 1, 4) := by kernel_rfl
-- the values' own types

end Go.Proofs.YtbcccmoddbmffaaDoor.P
