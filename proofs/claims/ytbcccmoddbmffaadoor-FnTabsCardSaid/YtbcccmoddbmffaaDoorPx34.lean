-- WRITTEN by xprint.py (a program of this session, over the kit's print) out of the translation. Not trusted: Lean checks it.
import Derived.Test.YtbcccmoddbmffaaDoorPx0
import Derived.Test.YtbcccmoddbmffaaDoorPx17
namespace Go.Proofs.YtbcccmoddbmffaaDoor.P
open Go.RowKit Go.Proofs.YtbcccmoddbmffaaDoorW.PrintWords Go.Proofs.YtbcccmoddbmffaaDoorW.PrintLast Go.Proofs.YtbcccmoddbmffaaDoorW.PrintMore
attribute [local go_sem] max2_int min2_int max_two min_two max_three min_three max_four min_four   -- for this text's walks alone
set_option linter.unusedVariables false
set_option linter.unusedSimpArgs false

-- GIVEN by hand: function 75 (strings_Builder_WriteRune)
/-! ### strings_Builder_WriteRune: function 75 -/
theorem Builder_WriteRune.bld (B b : Nat) (l : List UInt8) (r : Int) (hr0 : -2147483648 ≤ r) (hr1 : r ≤ 2147483647) (w : World) (h : BF B b l w) (hlen : l.length + 4 ≤ 140737488355328) (hBw : B ≤ w.heap.size) :
    Calls Tryd.prog 75 #[.pointer (some ⟨b, 0, none⟩), .int .i32 r] w fun e w' => (∃ z, e = .returned (.tuple #[.int .i64 z, .nilIface])) ∧ BF B b (l ++ Lib.encodeRune r) w' ∧ Below B w w' := by
  refine (Tryd.Builder_WriteRune_k B b (Lib.byteCells l) r hr0 hr1 w h (by rw [Lib.byteCells_length]; exact hlen) hBw).mono ?_
  rintro e w' ⟨rfl, h1, h2, _⟩
  refine ⟨⟨_, rfl⟩, ?_, h2⟩
  rw [← Lib.byteCells_encodeRune, ← Lib.byteCells_append] at h1
  exact Or.inr h1

end Go.Proofs.YtbcccmoddbmffaaDoor.P
