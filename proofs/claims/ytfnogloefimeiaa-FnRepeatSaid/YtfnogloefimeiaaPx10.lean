-- WRITTEN by xprint.py (a program of this session, over the kit's print) out of the translation. Not trusted: Lean checks it.
import Derived.Test.YtfnogloefimeiaaPx0
import Derived.Test.YtfnogloefimeiaaPx9
namespace Go.Proofs.Ytfnogloefimeiaa.P
open Go.RowKit Go.Proofs.YtfnogloefimeiaaW.PrintWords Go.Proofs.YtfnogloefimeiaaW.PrintLast Go.Proofs.YtfnogloefimeiaaW.PrintMore
attribute [local go_sem] max2_int min2_int max_two min_two max_three min_three max_four min_four   -- for this text's walks alone
set_option linter.unusedVariables false
set_option linter.unusedSimpArgs false

-- GIVEN by hand: function 36 (sprig_Repeat)
/-! ### sprig_Repeat: function 36 -/
def sprig_Repeat.f (a0 : Int) (a1 : ByteArray) : Option ByteArray := sprig_repeat.f a0 a1
theorem sprig_Repeat.calls (a0 : Int) (a1 : ByteArray) (r : ByteArray) (w : World) (h : sprig_Repeat.f a0 a1 = some r) :
    Calls Try.prog 36 #[.int .i64 a0, .string a1] w fun e w' => e = .returned (.string r) ∧ Below w.heap.size w w' := by
  unfold sprig_Repeat.f at h
  go_enter Try.func36, Try.ntmps36
  go_wp2_with fail
  refine (sprig_repeat.calls _ _ _ _ h).mono ?_
  rintro e w' ⟨rfl, hb⟩
  go_wp2
  go_ret
  exact ⟨rfl, hb⟩
theorem sprig_Repeat.panics (a0 : Int) (a1 : ByteArray) (w : World) (h : a0 < 0) :
    Calls Try.prog 36 #[.int .i64 a0, .string a1] w fun e w' => (∃ u pv, e = .panicked [{ v := .iface u pv, recovered := false }]) ∧ Below w.heap.size w w' := by
  go_enter Try.func36, Try.ntmps36
  go_wp2_with fail
  refine (sprig_repeat.panics _ _ _ h).mono ?_
  rintro e w' ⟨⟨u, pv, rfl⟩, hb⟩
  exact And.intro rfl (And.intro ⟨u, pv, rfl⟩ hb)

end Go.Proofs.Ytfnogloefimeiaa.P
