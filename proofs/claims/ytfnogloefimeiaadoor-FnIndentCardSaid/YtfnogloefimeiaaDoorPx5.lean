-- WRITTEN by xprint.py (a program of this session, over the kit's print) out of the translation. Not trusted: Lean checks it.
import Derived.Test.YtfnogloefimeiaaDoorPx0
namespace Go.Proofs.YtfnogloefimeiaaDoor.P
open Go.RowKit Go.Proofs.YtfnogloefimeiaaDoorW.PrintWords Go.Proofs.YtfnogloefimeiaaDoorW.PrintLast Go.Proofs.YtfnogloefimeiaaDoorW.PrintMore
attribute [local go_sem] max2_int min2_int max_two min_two max_three min_three max_four min_four   -- for this text's walks alone
set_option linter.unusedVariables false
set_option linter.unusedSimpArgs false

-- GIVEN by hand: function 47 (strings_Repeat)
/-! ### strings_Repeat: function 47 -/
def strings_Repeat.f (a0 : ByteArray) (a1 : Int) : Option ByteArray := if 0 ≤ a1 ∧ a1 ≤ 140737488355328 ∧ a0.size * a1.toNat ≤ 140737488355328 then some ⟨(Lib.repeatL a0.data.toList a1.toNat).toArray⟩ else none
theorem strings_Repeat.calls (a0 : ByteArray) (a1 : Int) (r : ByteArray) (w : World) (h : strings_Repeat.f a0 a1 = some r) :
    Calls Tryd.prog 47 #[.string a0, .int .i64 a1] w fun e w' => e = .returned (.string r) ∧ Below w.heap.size w w' := by
  unfold strings_Repeat.f at h
  split at h
  · rename_i hc
    obtain ⟨h0, h1, h2⟩ := hc
    injection h with h
    subst h
    have := Tryd.strings_Repeat a0 a1.toNat w (by omega) h2
    rwa [Int.toNat_of_nonneg h0] at this
  · cases h
theorem strings_Repeat.panics (a0 : ByteArray) (a1 : Int) (w : World) (h : a1 < 0) :
    Calls Tryd.prog 47 #[.string a0, .int .i64 a1] w fun e w' => (∃ u pv, e = .panicked [{ v := .iface u pv, recovered := false }]) ∧ Below w.heap.size w w' := by
  refine (Tryd.strings_Repeat_negative a0 a1 w h).mono ?_
  rintro e w' ⟨rfl, rfl⟩
  exact ⟨⟨_, _, rfl⟩, Below.refl _ _⟩

end Go.Proofs.YtfnogloefimeiaaDoor.P
