-- WRITTEN by xprint.py (a program of this session, over the kit's print) out of the translation. Not trusted: Lean checks it.
import Derived.Test.YtfnogloefimeiaaPx0
namespace Go.Proofs.Ytfnogloefimeiaa.P
open Go.RowKit Go.Proofs.YtfnogloefimeiaaW.PrintWords Go.Proofs.YtfnogloefimeiaaW.PrintLast Go.Proofs.YtfnogloefimeiaaW.PrintMore
attribute [local go_sem] max2_int min2_int max_two min_two max_three min_three max_four min_four   -- for this text's walks alone
set_option linter.unusedVariables false
set_option linter.unusedSimpArgs false

-- GIVEN by hand: function 56 (path_Clean)
/-! ### path_Clean: function 56 -/
def path_Clean.f (a0 : ByteArray) : Option ByteArray := if a0.size ≤ 281474976710656 then some ⟨(Lib.Pa.cleanEls a0.data.toList).toArray⟩ else none
theorem path_Clean.calls (a0 : ByteArray) (r : ByteArray) (w : World) (h : path_Clean.f a0 = some r) :
    Calls Try.prog 56 #[.string a0] w fun e w' => e = .returned (.string r) ∧ Below w.heap.size w w' := by
  unfold path_Clean.f at h
  split at h
  · rename_i hc
    injection h with h
    subst h
    exact Try.path_Clean_rules a0 w hc
  · cases h

end Go.Proofs.Ytfnogloefimeiaa.P
