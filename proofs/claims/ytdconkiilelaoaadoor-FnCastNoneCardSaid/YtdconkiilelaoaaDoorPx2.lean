-- WRITTEN by xprint.py (a program of this session, over the kit's print) out of the translation. Not trusted: Lean checks it.
import Derived.Test.YtdconkiilelaoaaDoorPx0
namespace Go.Proofs.YtdconkiilelaoaaDoor.P
open Go.RowKit Go.Proofs.YtdconkiilelaoaaDoorW.PrintWords Go.Proofs.YtdconkiilelaoaaDoorW.PrintLast Go.Proofs.YtdconkiilelaoaaDoorW.PrintMore
attribute [local go_sem] max2_int min2_int max_two min_two max_three min_three max_four min_four run_store_float   -- for this text's walks alone
set_option linter.unusedVariables false
set_option linter.unusedSimpArgs false

-- GIVEN by hand: function 69 (errors_New)
/-! ### errors_New: function 69 -/
theorem errors_New.calls (s : ByteArray) (w : World) : Calls Tryd.prog 69 #[.string s] w fun e w' => (∃ x, e = .returned (.iface 87 x)) ∧ Below w.heap.size w w' := by
  go_enter Tryd.func69, Tryd.ntmps69
  go_wp2
  go_ret
  exact ⟨⟨_, rfl⟩, (Below.refl _ _).alloc (Nat.le_refl _) _⟩

end Go.Proofs.YtdconkiilelaoaaDoor.P
