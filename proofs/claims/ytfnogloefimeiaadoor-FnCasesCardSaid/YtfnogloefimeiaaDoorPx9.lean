-- WRITTEN by xprint.py (a program of this session, over the kit's print) out of the translation. Not trusted: Lean checks it.
import Derived.Test.YtfnogloefimeiaaDoorPx0
import Derived.Test.YtfnogloefimeiaaDoorPx5
namespace Go.Proofs.YtfnogloefimeiaaDoor.P
open Go.RowKit Go.Proofs.YtfnogloefimeiaaDoorW.PrintWords Go.Proofs.YtfnogloefimeiaaDoorW.PrintLast Go.Proofs.YtfnogloefimeiaaDoorW.PrintMore
attribute [local go_sem] max2_int min2_int max_two min_two max_three min_three max_four min_four   -- for this text's walks alone
set_option linter.unusedVariables false
set_option linter.unusedSimpArgs false

-- GIVEN by hand: function 52 (strings_ToLower)
/-! ### strings_ToLower: function 52 -/
def strings_ToLower.f (a0 : ByteArray) : Option ByteArray := if a0.size ≤ 140737488355328 ∧ asciiL a0 = true then some ⟨(Lib.toLowerA a0.data.toList).toArray⟩ else none
theorem strings_ToLower.calls (a0 : ByteArray) (r : ByteArray) (w : World) (h : strings_ToLower.f a0 = some r) :
    Calls Tryd.prog 52 #[.string a0] w fun e w' => e = .returned (.string r) ∧ Below w.heap.size w w' := by
  unfold strings_ToLower.f at h
  split at h
  · rename_i hc
    injection h with h
    subst h
    exact Tryd.strings_ToLower_ascii a0 w hc.1 (asciiL_at hc.2)
  · cases h

end Go.Proofs.YtfnogloefimeiaaDoor.P
