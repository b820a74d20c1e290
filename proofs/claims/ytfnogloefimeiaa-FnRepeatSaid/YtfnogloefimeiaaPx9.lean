-- WRITTEN by xprint.py (a program of this session, over the kit's print) out of the translation. Not trusted: Lean checks it.
import Derived.Test.YtfnogloefimeiaaPx0
import Derived.Test.YtfnogloefimeiaaPx8
namespace Go.Proofs.Ytfnogloefimeiaa.P
open Go.RowKit Go.Proofs.YtfnogloefimeiaaW.PrintWords Go.Proofs.YtfnogloefimeiaaW.PrintLast Go.Proofs.YtfnogloefimeiaaW.PrintMore
attribute [local go_sem] max2_int min2_int max_two min_two max_three min_three max_four min_four   -- for this text's walks alone
set_option linter.unusedVariables false
set_option linter.unusedSimpArgs false

-- GIVEN by hand: function 48 (sprig_repeat)
/-! ### sprig_repeat: function 48 -/
def sprig_repeat.f (a0 : Int) (a1 : ByteArray) : Option ByteArray := strings_Repeat.f a1 a0
theorem sprig_repeat.calls (a0 : Int) (a1 : ByteArray) (r : ByteArray) (w : World) (h : sprig_repeat.f a0 a1 = some r) :
    Calls Try.prog 48 #[.int .i64 a0, .string a1] w fun e w' => e = .returned (.string r) ∧ Below w.heap.size w w' := by
  unfold sprig_repeat.f at h
  go_enter Try.func48, Try.ntmps48
  go_wp2_with fail
  refine (strings_Repeat.calls _ _ _ _ h).mono ?_
  rintro e w' ⟨rfl, hb⟩
  go_wp2
  go_ret
  exact ⟨rfl, hb⟩
theorem sprig_repeat.panics (a0 : Int) (a1 : ByteArray) (w : World) (h : a0 < 0) :
    Calls Try.prog 48 #[.int .i64 a0, .string a1] w fun e w' => (∃ u pv, e = .panicked [{ v := .iface u pv, recovered := false }]) ∧ Below w.heap.size w w' := by
  go_enter Try.func48, Try.ntmps48
  go_wp2_with fail
  refine (strings_Repeat.panics _ _ _ h).mono ?_
  rintro e w' ⟨⟨u, pv, rfl⟩, hb⟩
  exact And.intro rfl (And.intro ⟨u, pv, rfl⟩ hb)

end Go.Proofs.Ytfnogloefimeiaa.P
