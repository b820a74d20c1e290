-- WRITTEN by xprint.py (a program of this session, over the kit's print) out of the translation. Not trusted: Lean checks it.
import Derived.Test.YtmdehalchdgoeaaProg
import Derived.Below
import Derived.Deep.Draws
import Derived.Deep.AppendLies
import Derived.Maps.AppendAt
import Derived.OwnWalk
import Derived.Laws.BytesArg
import Derived.Laws.MakeOwn
import Derived.Laws.OwnMore
import Derived.Deep.OwnRows
import Derived.Tactics
import Derived.Lib.ConvBytes
import Derived.Laws.Slices
import Derived.WalkKit
import Derived.KernelRfl
import Derived.RowKit3
import Derived.Deep.LoopGhost
import Derived.Deep.QuietTactic
import Derived.BigQuiet
import Derived.WideLaws
import Derived.Deep.DeepCutAuto
import Derived.Deep.CutBlock
import Derived.Deep.RegionHeld3
import Derived.Laws.Rows
import Derived.Lib.AppendStr
import Derived.ArgAppend
import Derived.Laws.IdiomCopy
import Derived.OrdersHeld
import Derived.Laws.BitsLemmas
import Derived.RowKit
import Derived.Test.YtmdehalchdgoeaaXw
import Derived.Lib.Hide
import Derived.Test.YtmdehalchdgoeaaWWords
import Derived.Test.YtmdehalchdgoeaaWLast
import Derived.Test.YtmdehalchdgoeaaWTab
import Derived.Test.YtmdehalchdgoeaaWFour
import Derived.Test.YtmdehalchdgoeaaWQPut
import Derived.Test.YtmdehalchdgoeaaWApart
import Derived.Test.YtmdehalchdgoeaaWArr
import Derived.Test.YtmdehalchdgoeaaWZeros
import Derived.Test.YtmdehalchdgoeaaWFoot
import Derived.Test.YtmdehalchdgoeaaWKept
import Derived.Test.YtmdehalchdgoeaaWShare
import Derived.Test.YtmdehalchdgoeaaWN
import Derived.Test.YtmdehalchdgoeaaWFootNe
import Derived.Test.YtmdehalchdgoeaaWAt
import Derived.Test.YtmdehalchdgoeaaWEqStruct
import Derived.Test.YtmdehalchdgoeaaWRepsOne
import Derived.Test.YtmdehalchdgoeaaWInv
import Derived.Test.YtmdehalchdgoeaaWInvWords
import Derived.Test.YtmdehalchdgoeaaWGuard
import Derived.Test.YtmdehalchdgoeaaWNEv
import Derived.Test.YtmdehalchdgoeaaWMore
namespace Go.Proofs.Ytmdehalchdgoeaa.P
open Go.RowKit Go.Proofs.YtmdehalchdgoeaaW.PrintWords Go.Proofs.YtmdehalchdgoeaaW.PrintLast Go.Proofs.YtmdehalchdgoeaaW.PrintMore
attribute [local go_sem] max2_int min2_int max_two min_two max_three min_three max_four min_four   -- for this text's walks alone
set_option linter.unusedVariables false
set_option linter.unusedSimpArgs false



def errW : Option Int → Value
  | none => .nilIface
  | some c => .iface 0 (.int .i64 c)
theorem errW_none : errW none = .nilIface := rfl
theorem errW_some (c : Int) : errW (some c) = .iface 0 (.int .i64 c) := rfl

theorem info9 : (Try.prog.info? 9).map (fun i => (i.zero, i.size, i.bytes)) = some (some (.string ⟨#[]⟩), 1, 16) := by kernel_rfl
-- the values' own types

end Go.Proofs.Ytmdehalchdgoeaa.P
