-- WRITTEN by xprint.py (a program of this session, over the kit's print) out of the translation. Not trusted: Lean checks it.
import Derived.Test.YtbcccmoddbmffaaDoorPx0
import Derived.Test.YtbcccmoddbmffaaDoorPx6
namespace Go.Proofs.YtbcccmoddbmffaaDoor.P
open Go.RowKit Go.Proofs.YtbcccmoddbmffaaDoorW.PrintWords Go.Proofs.YtbcccmoddbmffaaDoorW.PrintLast Go.Proofs.YtbcccmoddbmffaaDoorW.PrintMore
attribute [local go_sem] max2_int min2_int max_two min_two max_three min_three max_four min_four   -- for this text's walks alone
set_option linter.unusedVariables false
set_option linter.unusedSimpArgs false

-- GIVEN by hand: function 73 (strings_Builder_String)
/-! ### strings_Builder_String: function 73 -/
theorem Builder_String.bld (B b : Nat) (l : List UInt8) (w : World) (h : BF B b l w) (hBw : B ≤ w.heap.size) :
    Calls Tryd.prog 73 #[.pointer (some ⟨b, 0, none⟩)] w fun e w' => e = .returned (.string ⟨l.toArray⟩) ∧ BF B b l w' ∧ Below B w w' := by
  refine (Tryd.Builder_String_any_k B b l w h hBw).mono ?_
  rintro e w' ⟨rfl, h1, h2, _⟩
  exact ⟨rfl, h1, h2⟩

end Go.Proofs.YtbcccmoddbmffaaDoor.P
