-- WRITTEN by xprint.py (a program of this session, over the kit's print) out of the translation. Not trusted: Lean checks it.
import Derived.Test.YtagafmfmmnegfaaDoorPx0
namespace Go.Proofs.YtagafmfmmnegfaaDoor.P
open Go.RowKit Go.Proofs.YtagafmfmmnegfaaDoorW.PrintWords Go.Proofs.YtagafmfmmnegfaaDoorW.PrintLast Go.Proofs.YtagafmfmmnegfaaDoorW.PrintMore
attribute [local go_sem] max2_int min2_int max_two min_two max_three min_three max_four min_four   -- for this text's walks alone
set_option linter.unusedVariables false
set_option linter.unusedSimpArgs false

-- GIVEN by hand: function 135 (cast_ToInt64)
/-! ### cast_ToInt64: function 135 -/
set_option maxHeartbeats 800000 in
set_option maxRecDepth 100000 in
theorem cast_ToInt64.i64 (a : Int) (w : World) :
    Calls Tryd.prog 135 #[.iface 2 (.int .i64 a)] w fun e w' => e = .returned (.int .i64 a) ∧ w = w' := by
  have hta : ∀ W : World, (Instr.typeAssert (Value.iface 2 (Value.int .i64 a)) 20 2 true).run Tryd.prog W = .ok (.tuple #[.int .i64 a, .bool true]) W := fun _ => by kernel_rfl
  go_enter Tryd.func135, Tryd.ntmps135
  go_wp2
  go_ret
  exact ⟨rfl, rfl⟩

end Go.Proofs.YtagafmfmmnegfaaDoor.P
